import Derived.Test.Qxb6630114aTwice
namespace Go.Proofs.Qxb6630114a
open Go.RowKit Go.MuLone
set_option linter.unusedVariables false
set_option linter.unusedSimpArgs false

set_option maxHeartbeats 4000000 in
theorem mix_in (a0 : Bool) (a1 a2 : Int) (a3 : Bool) (a4 a5 a6 : Int) (b0 : Bool) (b1 b4 b5 : Int) (w : World) (h1 : ¬ a1 < 0) (h2 : ¬ a2 < 0) (h4 : ¬ a4 < 0) (h5 : ¬ a5 < 0) (h6 : ¬ a6 < 0)
    (k1 : ¬ b1 < 0) (k4 : ¬ b4 < 0) (k5 : ¬ b5 < 0) (hA : ¬ a1 < a4) (hB : ¬ b1 < b4) :
    Calls Try.prog 4 #[.bool a0, .int .i64 a1, .int .i64 a2, .bool a3, .int .i64 a4, .int .i64 a5, .int .i64 a6, .bool b0, .int .i64 b1, .int .i64 b4, .int .i64 b5] w fun e w' => e = .returned (.bool true) ∧ Grown w w' := by
  go_enter Try.func4, Try.ntmps4
  go_wp2_with fail
  refine (new_any a0 a1 a2 a3 a4 a5 a6 _).mono ?_
  rintro e w' ⟨rfl, rfl⟩
  go_wp2_with fail
  refine (new_any b0 b1 0 false b4 b5 0 _).mono ?_
  rintro e w' ⟨rfl, rfl⟩
  go_wp2_with fail
  refine (read_some _ a0 a1 a2 a3 a4 a5 a6 _ ?_).mono ?_
  · exact heap_past (heap_at (by simp))
  rintro e w' ⟨rfl, rfl⟩
  simp only [figs]
  go_wp2_with fail
  refine (read_some _ b0 b1 0 false b4 b5 0 _ ?_).mono ?_
  · exact heap_past (heap_past (heap_at (by simp)))
  rintro e w' ⟨rfl, rfl⟩
  simp only [figs]
  go_wp2_with fail
  refine (read_some _ a0 a1 a2 a3 a4 a5 a6 _ ?_).mono ?_
  · exact heap_past (heap_past (heap_past (heap_past (heap_past (heap_at (by simp))))))
  rintro e w' ⟨rfl, rfl⟩
  simp only [figs]
  go_wp2_with fail
  refine (read_some _ b0 b1 0 false b4 b5 0 _ ?_).mono ?_
  · exact heap_past (heap_past (heap_past (heap_past (heap_past (heap_past (heap_at (by simp)))))))
  rintro e w' ⟨rfl, rfl⟩
  simp only [figs, meter]
  go_wp2
  go_ret
  exact ⟨rfl, by repeat (first | exact Grown.refl _ | apply Grown.drew | apply Grown.alloc)⟩

set_option maxHeartbeats 2000000 in
theorem mix_out (a0 : Bool) (a1 a2 : Int) (a3 : Bool) (a4 a5 a6 : Int) (b0 : Bool) (b1 b4 b5 : Int) (w : World)
    (h : a1 < 0 ∨ a2 < 0 ∨ a4 < 0 ∨ a5 < 0 ∨ a6 < 0 ∨ b1 < 0 ∨ b4 < 0 ∨ b5 < 0 ∨ a1 < a4 ∨ b1 < b4) :
    Calls Try.prog 4 #[.bool a0, .int .i64 a1, .int .i64 a2, .bool a3, .int .i64 a4, .int .i64 a5, .int .i64 a6, .bool b0, .int .i64 b1, .int .i64 b4, .int .i64 b5] w fun e w' => e = .returned (.bool true) ∧ Grown w w' := by
  by_cases h1 : a1 < 0
  · clear h
    go_enter Try.func4, Try.ntmps4
    go_wp2
    go_ret
    exact ⟨rfl, Grown.refl _⟩
  by_cases h2 : a2 < 0
  · clear h
    go_enter Try.func4, Try.ntmps4
    go_wp2
    go_ret
    exact ⟨rfl, Grown.refl _⟩
  by_cases h4 : a4 < 0
  · clear h
    go_enter Try.func4, Try.ntmps4
    go_wp2
    go_ret
    exact ⟨rfl, Grown.refl _⟩
  by_cases h5 : a5 < 0
  · clear h
    go_enter Try.func4, Try.ntmps4
    go_wp2
    go_ret
    exact ⟨rfl, Grown.refl _⟩
  by_cases h6 : a6 < 0
  · clear h
    go_enter Try.func4, Try.ntmps4
    go_wp2
    go_ret
    exact ⟨rfl, Grown.refl _⟩
  by_cases k1 : b1 < 0
  · clear h
    go_enter Try.func4, Try.ntmps4
    go_wp2
    go_ret
    exact ⟨rfl, Grown.refl _⟩
  by_cases k4 : b4 < 0
  · clear h
    go_enter Try.func4, Try.ntmps4
    go_wp2
    go_ret
    exact ⟨rfl, Grown.refl _⟩
  by_cases k5 : b5 < 0
  · clear h
    go_enter Try.func4, Try.ntmps4
    go_wp2
    go_ret
    exact ⟨rfl, Grown.refl _⟩
  by_cases hA : a1 < a4
  · clear h
    go_enter Try.func4, Try.ntmps4
    go_wp2
    go_ret
    exact ⟨rfl, Grown.refl _⟩
  have hB : b1 < b4 := by omega
  clear h
  go_enter Try.func4, Try.ntmps4
  go_wp2
  go_ret
  exact ⟨rfl, Grown.refl _⟩

theorem mix_any (a0 : Bool) (a1 a2 : Int) (a3 : Bool) (a4 a5 a6 : Int) (b0 : Bool) (b1 b4 b5 : Int) (w : World) :
    Calls Try.prog 4 #[.bool a0, .int .i64 a1, .int .i64 a2, .bool a3, .int .i64 a4, .int .i64 a5, .int .i64 a6, .bool b0, .int .i64 b1, .int .i64 b4, .int .i64 b5] w fun e w' => e = .returned (.bool true) ∧ Grown w w' := by
  by_cases h : a1 < 0 ∨ a2 < 0 ∨ a4 < 0 ∨ a5 < 0 ∨ a6 < 0 ∨ b1 < 0 ∨ b4 < 0 ∨ b5 < 0 ∨ a1 < a4 ∨ b1 < b4
  · exact mix_out a0 a1 a2 a3 a4 a5 a6 b0 b1 b4 b5 w h
  · exact mix_in a0 a1 a2 a3 a4 a5 a6 b0 b1 b4 b5 w (by omega) (by omega) (by omega) (by omega) (by omega) (by omega) (by omega) (by omega) (by omega) (by omega)
end Go.Proofs.Qxb6630114a
