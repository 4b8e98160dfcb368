import Derived.Test.Qxb6630183aBase
import Derived.ProofKit
import Derived.OpenShut
import Derived.ShutString
import Derived.ChangeOld
import Derived.Below
import Derived.Deep.SlicePairs
namespace Go.Proofs.Qxb6630183a
open Go.ChangeShapes Go.WideShapes Go.ChangeAt Go.RowKit
set_option linter.unusedVariables false
set_option linter.unusedSimpArgs false

def strOf : Value → ByteArray
  | .string s => s
  | _ => ByteArray.empty
def boolOf : Value → Bool
  | .bool b => b
  | _ => false

/-- A slice of entries that came in, opened. -/
theorem open_ents {H : Type} {enc : TypeId × Value → H} {W : World} {a : Option Addr} {len cap : Nat} {d : DataW H} {ps : List MemPlace}
    (h : DataW.Trod enc Try.prog W 0 (fun _ => true) true 22 (.slice a len cap) d ps) :
    ∃ es, Ents W W.heap.size a len cap es ∧ (a = none → len = 0 ∧ cap = 0) ∧ len ≤ 9223372036854775807 := by
  obtain ⟨fuel, hf⟩ := h
  rcases Go.Deep.open_slice_pairs Try.underlying22 Try.underlying29 (by kernel_rfl) rfl rfl (by kernel_rfl) (by kernel_rfl) hf with ⟨hcs, _⟩ | ⟨x, l, c, m, n, V0, V1, D0, D1, P0, P1, hcs, _, hl, hm, hmm, _, hx⟩
  · simp [Value.cells] at hcs
    obtain ⟨rfl, rfl, rfl⟩ := hcs
    exact ⟨[], ⟨rfl, fun h => by omega⟩, fun _ => ⟨rfl, rfl⟩, by omega⟩
  · simp [Value.cells] at hcs
    obtain ⟨rfl, rfl, rfl⟩ := hcs
    have hm' := hm
    unfold maxLen at hm'
    simp at hmm
    refine ⟨(List.range len).map fun i => (strOf (V0 i), boolOf (V1 i)), ⟨by simp, fun h0 => ?_⟩, fun h => (by cases h), by omega⟩
    obtain ⟨b, off, spot⟩ := x
    have hspot : spot = none := by simpa [Addr.add] using World.cell?_spot (hx 0 (by omega)).1
    subst hspot
    have hb : b < W.heap.size := by
      have := (hx 0 (by omega)).1
      rw [add_plain] at this
      exact World.block_lt_of_cell? W _ this
    refine ⟨b, off, rfl, hb, hl, hm, fun j y hj => ?_⟩
    have hjl : j < len := by have := (List.getElem?_eq_some_iff.1 hj).1; simpa using this
    obtain ⟨c1, c2, t1, t2⟩ := hx j (by omega)
    rw [add_plain] at c1 c2
    obtain ⟨s, e1, _, hs⟩ := DataW.trod_string Try.underlying9 t1
    obtain ⟨q, e2, _⟩ := DataW.trod_bool Try.underlying4 t2
    simp at e1 e2
    simp [hjl, e1, e2, strOf, boolOf] at hj
    subst hj
    rw [e1] at c1
    rw [e2] at c2
    exact ⟨c1, by rw [Nat.add_assoc]; exact c2, hs⟩
end Go.Proofs.Qxb6630183a
