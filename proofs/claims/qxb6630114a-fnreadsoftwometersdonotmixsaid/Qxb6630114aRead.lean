import Derived.Test.Qxb6630114aLocks
import Derived.WalkKit
import Derived.Defers
namespace Go.Proofs.Qxb6630114a
open Go.RowKit Go.MuLone
set_option linter.unusedVariables false
set_option linter.unusedSimpArgs false

/-- The figures, as cells. -/
def figs (f0 : Bool) (f1 f2 : Int) (f3 : Bool) (f4 f5 f6 : Int) : Array Value := #[.bool f0, .int .i64 f1, .int .i64 f2, .bool f3, .int .i64 f4, .int .i64 f5, .int .i64 f6]
/-- A meter that nobody holds. -/
def meter (f0 : Bool) (f1 f2 : Int) (f3 : Bool) (f4 f5 f6 : Int) : Obj := .cells #[.int .i32 0, .int .u32 0, .bool f0, .int .i64 f1, .int .i64 f2, .bool f3, .int .i64 f4, .int .i64 f5, .int .i64 f6] 37

theorem lock_back {w : World} {b : Nat} {cs : Array Value} {t : TypeId} (x : Value) {y : Value} (hb : w.heap[b]? = some (.cells cs t (0, 0))) (hy : cs[0]? = some y) :
    (w.setCell ⟨b, 0, none⟩ x).setCell ⟨b, 0, none⟩ y = w := by
  have hh : ((w.setCell ⟨b, 0, none⟩ x).setCell ⟨b, 0, none⟩ y).heap = w.heap := by
    apply Array.ext_getElem?
    intro k
    by_cases e : k = b
    · subst e
      have hc : (cs.setIfInBounds 0 x).setIfInBounds 0 y = cs := by
        apply Array.ext_getElem?
        intro j
        by_cases ej : j = 0
        · subst ej
          obtain ⟨h0, h1⟩ := Array.getElem?_eq_some_iff.1 hy
          simp [h0, h1]
        · simp [Array.getElem?_setIfInBounds, Ne.symm ej]
      rw [heap_setCell_same _ k 0 _ t y (heap_setCell_same w k 0 cs t x hb), hc, hb]
    · rw [Below.heap_setCell _ _ _ _ e, Below.heap_setCell _ _ _ _ e]
  show ({ w with heap := ((w.setCell ⟨b, 0, none⟩ x).setCell ⟨b, 0, none⟩ y).heap } : World) = w
  rw [hh]

set_option maxHeartbeats 1000000 in
theorem read_nil (w : World) :
    Calls Try.prog 6 #[.pointer none] w fun e w' => e = .returned (.agg (figs false 0 0 false 0 0 0)) ∧ w' = w.alloc (.cells (figs false 0 0 false 0 0 0) 24) := by
  go_enter Try.func6, Try.ntmps6
  go_wp2
  exact bodyPost_ret (v := .agg (figs false 0 0 false 0 0 0)) (by simp [results, Try.results6, go_sem, figs]) rfl ⟨rfl, rfl⟩

set_option maxHeartbeats 1000000 in
theorem read_some (b : Nat) (f0 : Bool) (f1 f2 : Int) (f3 : Bool) (f4 f5 f6 : Int) (w : World)
    (hb : w.heap[b]? = some (meter f0 f1 f2 f3 f4 f5 f6)) :
    Calls Try.prog 6 #[.pointer (some ⟨b, 0, none⟩)] w fun e w' => e = .returned (.agg (figs f0 f1 f2 f3 f4 f5 f6)) ∧ w' = w.alloc (.cells (figs f0 f1 f2 f3 f4 f5 f6) 24) := by
  have hlt : b < w.heap.size := (Array.getElem?_eq_some_iff.1 hb).1
  have hc : ∀ i, w.cell? ⟨b, i, none⟩ = (#[.int .i32 0, .int .u32 0, .bool f0, .int .i64 f1, .int .i64 f2, .bool f3, .int .i64 f4, .int .i64 f5, .int .i64 f6] : Array Value)[i]? := fun i => by
    unfold meter at hb
    simp [World.cell?, hb]
  have c0 : w.cell? ⟨b, 0, none⟩ = some (.int .i32 0) := (hc 0).trans rfl
  have c2 : w.cell? ⟨b, 2, none⟩ = some (.bool f0) := (hc 2).trans rfl
  have c3 : w.cell? ⟨b, 3, none⟩ = some (.int .i64 f1) := (hc 3).trans rfl
  have c4 : w.cell? ⟨b, 4, none⟩ = some (.int .i64 f2) := (hc 4).trans rfl
  have c5 : w.cell? ⟨b, 5, none⟩ = some (.bool f3) := (hc 5).trans rfl
  have c6 : w.cell? ⟨b, 6, none⟩ = some (.int .i64 f4) := (hc 6).trans rfl
  have c7 : w.cell? ⟨b, 7, none⟩ = some (.int .i64 f5) := (hc 7).trans rfl
  have c8 : w.cell? ⟨b, 8, none⟩ = some (.int .i64 f6) := (hc 8).trans rfl
  have z0 : w.frozen? ⟨b, 0, none⟩ = false := by
    unfold meter at hb
    simp [World.frozen?, hb]
  have HB : Hid (w.heap[b]? = some (meter f0 f1 f2 f3 f4 f5 f6)) := hb
  clear hc hb
  go_enter_defers Try.func6, Try.ntmps6
  go_wp2_with fail
  refine (lock_free Try.muLib ⟨b, 0, none⟩ _ ?_ ?_).mono ?_
  · rw [World.cell?_alloc_past _ _ _ hlt]; exact c0
  · rw [World.frozen?_alloc_old _ _ _ (by simp; omega)]; exact z0
  rintro e w' ⟨rfl, rfl⟩
  go_wp2
  refine leaves_cons (f := 8) (args := #[.pointer (some ⟨b, 0, none⟩)]) (by simp) (by simp [go_sem]) ?_
  refine (unlock_deferred Try.muLib ⟨b, 0, none⟩ .returning _ ?_ ?_).mono ?_
  · rw [World.cell?_alloc_past _ _ _ (by simpa [World.setCell] using hlt)]; exact World.cell?_setCell_same w _ _ c0
  · rw [World.frozen?_alloc_old _ _ _ (by simp [World.setCell]; omega), World.frozen?_setCell]; exact z0
  rintro e u' w'' ⟨rfl, rfl, rfl⟩
  rw [World.setCell_alloc_past _ _ _ _ (by simpa [World.setCell] using hlt), lock_back (y := .int .i32 0) (.int .i32 1) HB.out rfl]
  exact ⟨.agg (figs f0 f1 f2 f3 f4 f5 f6), by simp [results, Try.results6, go_sem, figs], rfl, rfl⟩
end Go.Proofs.Qxb6630114a
