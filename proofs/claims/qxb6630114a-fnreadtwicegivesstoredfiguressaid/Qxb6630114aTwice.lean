import Derived.Test.Qxb6630114aRead
namespace Go.Proofs.Qxb6630114a
open Go.RowKit Go.MuLone
set_option linter.unusedVariables false
set_option linter.unusedSimpArgs false

theorem new_any (f0 : Bool) (f1 f2 : Int) (f3 : Bool) (f4 f5 f6 : Int) (w : World) :
    Calls Try.prog 5 #[.bool f0, .int .i64 f1, .int .i64 f2, .bool f3, .int .i64 f4, .int .i64 f5, .int .i64 f6] w fun e w' => e = .returned (.pointer (some ⟨w.heap.size, 0, none⟩)) ∧ w' = w.alloc (meter f0 f1 f2 f3 f4 f5 f6) := by
  go_enter Try.func5, Try.ntmps5
  go_wp2
  go_ret
  exact ⟨rfl, rfl⟩

set_option maxHeartbeats 1000000 in
theorem twice_nil (a1 : Bool) (a2 a3 : Int) (a4 : Bool) (a5 a6 a7 : Int) (w : World) (h2 : ¬ a2 < 0) (h3 : ¬ a3 < 0) (h5 : ¬ a5 < 0) (h6 : ¬ a6 < 0) (h7 : ¬ a7 < 0) (h : ¬ a2 < a5) :
    Calls Try.prog 3 #[.bool true, .bool a1, .int .i64 a2, .int .i64 a3, .bool a4, .int .i64 a5, .int .i64 a6, .int .i64 a7] w fun e w' => e = .returned (.bool true) ∧ Grown w w' := by
  go_enter Try.func3, Try.ntmps3
  go_wp2_with fail
  refine (read_nil _).mono ?_
  rintro e w' ⟨rfl, rfl⟩
  simp only [figs]
  go_wp2_with fail
  refine (read_nil _).mono ?_
  rintro e w' ⟨rfl, rfl⟩
  simp only [figs]
  go_wp2
  go_ret
  exact ⟨rfl, by repeat (first | exact Grown.refl _ | apply Grown.drew | apply Grown.alloc)⟩

theorem heap_at {u : World} {o : Obj} {n : Nat} (h : n = u.heap.size) : (u.alloc o).heap[n]? = some o := by
  subst h; exact heap_alloc_new u o
theorem heap_past {u : World} {o x : Obj} {n : Nat} (hx : u.heap[n]? = some x) : (u.alloc o).heap[n]? = some x := by
  rw [Below.heap_alloc _ _ _ (Array.getElem?_eq_some_iff.1 hx).1]; exact hx

set_option maxHeartbeats 1000000 in
theorem twice_some (a1 : Bool) (a2 a3 : Int) (a4 : Bool) (a5 a6 a7 : Int) (w : World) (h2 : ¬ a2 < 0) (h3 : ¬ a3 < 0) (h5 : ¬ a5 < 0) (h6 : ¬ a6 < 0) (h7 : ¬ a7 < 0) (h : ¬ a2 < a5) :
    Calls Try.prog 3 #[.bool false, .bool a1, .int .i64 a2, .int .i64 a3, .bool a4, .int .i64 a5, .int .i64 a6, .int .i64 a7] w fun e w' => e = .returned (.bool true) ∧ Grown w w' := by
  go_enter Try.func3, Try.ntmps3
  go_wp2_with fail
  refine (new_any a1 a2 a3 a4 a5 a6 a7 _).mono ?_
  rintro e w' ⟨rfl, rfl⟩
  go_wp2_with fail
  refine (read_some _ a1 a2 a3 a4 a5 a6 a7 _ ?_).mono ?_
  · exact heap_at (by simp)
  rintro e w' ⟨rfl, rfl⟩
  simp only [figs]
  go_wp2_with fail
  refine (read_some _ a1 a2 a3 a4 a5 a6 a7 _ ?_).mono ?_
  · exact heap_past (heap_past (heap_at (by simp)))
  rintro e w' ⟨rfl, rfl⟩
  simp only [figs, meter]
  go_wp2
  go_ret
  exact ⟨rfl, by repeat (first | exact Grown.refl _ | apply Grown.drew | apply Grown.alloc)⟩

set_option maxHeartbeats 1000000 in
theorem twice_out (a0 a1 : Bool) (a2 a3 : Int) (a4 : Bool) (a5 a6 a7 : Int) (w : World) (h : a2 < 0 ∨ a3 < 0 ∨ a5 < 0 ∨ a6 < 0 ∨ a7 < 0 ∨ a2 < a5) :
    Calls Try.prog 3 #[.bool a0, .bool a1, .int .i64 a2, .int .i64 a3, .bool a4, .int .i64 a5, .int .i64 a6, .int .i64 a7] w fun e w' => e = .returned (.bool true) ∧ Grown w w' := by
  by_cases h2 : a2 < 0
  · go_enter Try.func3, Try.ntmps3
    go_wp2
    go_ret
    exact ⟨rfl, Grown.refl _⟩
  by_cases h3 : a3 < 0
  · go_enter Try.func3, Try.ntmps3
    go_wp2
    go_ret
    exact ⟨rfl, Grown.refl _⟩
  by_cases h5 : a5 < 0
  · go_enter Try.func3, Try.ntmps3
    go_wp2
    go_ret
    exact ⟨rfl, Grown.refl _⟩
  by_cases h6 : a6 < 0
  · go_enter Try.func3, Try.ntmps3
    go_wp2
    go_ret
    exact ⟨rfl, Grown.refl _⟩
  by_cases h7 : a7 < 0
  · go_enter Try.func3, Try.ntmps3
    go_wp2
    go_ret
    exact ⟨rfl, Grown.refl _⟩
  have h8 : a2 < a5 := by omega
  clear h
  go_enter Try.func3, Try.ntmps3
  go_wp2
  go_ret
  exact ⟨rfl, Grown.refl _⟩

theorem twice_any (a0 a1 : Bool) (a2 a3 : Int) (a4 : Bool) (a5 a6 a7 : Int) (w : World) :
    Calls Try.prog 3 #[.bool a0, .bool a1, .int .i64 a2, .int .i64 a3, .bool a4, .int .i64 a5, .int .i64 a6, .int .i64 a7] w fun e w' => e = .returned (.bool true) ∧ Grown w w' := by
  by_cases h : a2 < 0 ∨ a3 < 0 ∨ a5 < 0 ∨ a6 < 0 ∨ a7 < 0 ∨ a2 < a5
  · exact twice_out a0 a1 a2 a3 a4 a5 a6 a7 w h
  · cases a0
    · exact twice_some a1 a2 a3 a4 a5 a6 a7 w (by omega) (by omega) (by omega) (by omega) (by omega) (by omega)
    · exact twice_nil a1 a2 a3 a4 a5 a6 a7 w (by omega) (by omega) (by omega) (by omega) (by omega) (by omega)
end Go.Proofs.Qxb6630114a
