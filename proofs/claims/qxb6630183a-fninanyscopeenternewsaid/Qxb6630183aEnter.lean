import Derived.Test.Qxb6630183aExact
import Derived.Deep.AppendLies
namespace Go.Proofs.Qxb6630183a
open Go.RowKit Go.Maps
set_option linter.unusedVariables false
set_option linter.unusedSimpArgs false

/-! ### Plain facts -/
theorem any_insert_ne (id : ByteArray) (l : Bool) (s : ByteArray) (h : ¬ s = id) (xs ys : List (ByteArray × Bool)) :
    ((xs ++ (id, l) :: ys).any fun y => decide (y.1 = s)) = ((xs ++ ys).any fun y => decide (y.1 = s)) := by
  have h' : ¬ id = s := fun e => h e.symm
  simp [h']
theorem inB_insert (id : ByteArray) (l : Bool) : ∀ (xs ys : List (ByteArray × Bool)), (∀ x ∈ xs ++ ys, ¬ x.1 = id) → inB (xs ++ (id, l) :: ys) = (inB (xs ++ ys) || !l)
  | [], ys, h => by
    have : (ys.any fun y => decide (y.1 = id)) = false := by
      rw [List.any_eq_false]
      intro y hy
      simpa using h y (by simpa using hy)
    simp [inB, this, Bool.or_comm]
  | x :: xs, ys, h => by
    have ih := inB_insert id l xs ys (fun y hy => h y (by simp at hy ⊢; exact Or.inr hy))
    have hx : ¬ x.1 = id := h x (by simp)
    simp only [List.cons_append, inB]
    rw [ih, any_insert_ne id l x.1 hx xs ys, Bool.or_assoc]

/-- The cells of entries, one behind another. -/
def cellsOf : List (ByteArray × Bool) → List Value
  | [] => []
  | x :: r => .string x.1 :: .bool x.2 :: cellsOf r
theorem cellsOf_length : ∀ es : List (ByteArray × Bool), (cellsOf es).length = es.length * 2
  | [] => rfl
  | x :: r => by simp [cellsOf, cellsOf_length r]; omega
theorem cellsOf_append : ∀ xs ys : List (ByteArray × Bool), cellsOf (xs ++ ys) = cellsOf xs ++ cellsOf ys
  | [], ys => rfl
  | x :: r, ys => by simp [cellsOf, cellsOf_append r ys]
theorem cellsOf_at : ∀ (es : List (ByteArray × Bool)) (j : Nat) (x : ByteArray × Bool), es[j]? = some x → (cellsOf es)[j * 2]? = some (.string x.1) ∧ (cellsOf es)[j * 2 + 1]? = some (.bool x.2)
  | [], j, x, h => by simp at h
  | e :: r, 0, x, h => by simp at h; subst h; simp [cellsOf]
  | e :: r, j + 1, x, h => by
    have := cellsOf_at r j x (by simpa using h)
    rw [show (j + 1) * 2 = j * 2 + 1 + 1 by omega]
    simpa [cellsOf] using this
theorem cellsOf_snoc {bs : List (ByteArray × Bool)} {k : Nat} {x : ByteArray × Bool} (h : bs[k]? = some x) : cellsOf (bs.take (k + 1)) = cellsOf (bs.take k) ++ [.string x.1, .bool x.2] := by
  obtain ⟨hk, rfl⟩ := List.getElem?_eq_some_iff.1 h
  rw [List.take_succ_eq_append_getElem hk, cellsOf_append]; rfl

theorem Ents.sizes {w : World} {B len cap : Nat} {a : Option Addr} {es : List (ByteArray × Bool)} (h : Ents w B a len cap es) : ∀ x ∈ es, x.1.size ≤ maxLen := by
  intro x hx
  obtain ⟨j, hj⟩ := List.getElem?_of_mem hx
  have hjl : j < len := by have := (List.getElem?_eq_some_iff.1 hj).1; rw [h.1] at this; exact this
  obtain ⟨xb, xo, _, _, _, _, h3⟩ := h.2 (by omega)
  exact (h3 j x hj).2.2

/-! ### The view, nil or not -/
def ViewOf (w : World) (u : Nat) (es : List (ByteArray × Bool)) : Prop :=
  (w.cell? ⟨u, 7, none⟩ = some (.map none) ∧ es = []) ∨ ∃ B D, w.cell? ⟨u, 7, none⟩ = some (.map (some B)) ∧ Built w B es D
theorem build_any {w : World} {len cap : Nat} {a : Option Addr} {es : List (ByteArray × Bool)} (h : Ents w w.heap.size a len cap es) (hn : a = none → len = 0 ∧ cap = 0) (hl : len ≤ 4097) :
    Calls Try.prog 7 #[.slice a len cap] w fun e w' => ∃ u, e = .returned (.pointer (some ⟨u, 0, none⟩)) ∧ ViewOf w' u es ∧ Below w.heap.size w w' := by
  cases a with
  | none =>
    obtain ⟨rfl, rfl⟩ := hn rfl
    refine (build_nil w).mono ?_
    rintro e w' ⟨u, rfl, h1, h2⟩
    exact ⟨u, rfl, .inl ⟨h1, List.eq_nil_of_length_eq_zero h.1⟩, h2⟩
  | some x =>
    refine (build_some h hl).mono ?_
    rintro e w' ⟨u, D, rfl, h1, h2, h3⟩
    exact ⟨u, rfl, .inr ⟨_, D, h1, h2⟩, h3⟩
theorem any_any {w : World} {u : Nat} {es : List (ByteArray × Bool)} (h : ViewOf w u es) :
    Calls Try.prog 8 #[.pointer (some ⟨u, 0, none⟩)] w fun e w' => e = .returned (.bool (inB es)) ∧ Below w.heap.size w w' := by
  rcases h with ⟨h1, rfl⟩ | ⟨B, D, h1, h2⟩
  · exact any_nil h1
  · exact any_some h2 h1

theorem Try.info29 : (Try.prog.info? 29).map (fun i => (i.zero, i.size, i.bytes)) = some (some (.agg #[.string ⟨#[]⟩, .bool false]), 2, 24) := by kernel_rfl
theorem make_row (n : Nat) (z : Int) (hz : z = (n : Int)) (hn : n ≤ 4000000) (w : World) :
    (Instr.makeSlice 22 (.int .i64 0) (.int .i64 z)).run Try.prog w = .ok (.slice (some ⟨w.heap.size, 0, none⟩) 0 n) (w.alloc (.cells (madeCells #[.string ⟨#[]⟩, .bool false] (n * 2)) 29)) := by
  subst hz
  obtain ⟨i, hi, hz0, hz1, hz2⟩ := info_parts Try.info29
  have hr := run_make (P := Try.prog) w 22 29 i _ Try.underlying22 hi hz0 .i64 .i64 0 n (Int.le_refl _) (by omega) (by rw [hz2]; omega) (by omega)
  simp only [Int.toNat_natCast, Int.toNat_zero, hz1, Value.cells] at hr
  exact hr

/-- The list that is laid: the new entry put in at place p. -/
def put (es : List (ByteArray × Bool)) (p : Nat) (id : ByteArray) (l : Bool) : List (ByteArray × Bool) := es.take p ++ (id, l) :: es.drop p
theorem put_length (es : List (ByteArray × Bool)) (p : Nat) (id : ByteArray) (l : Bool) (hp : p ≤ es.length) : (put es p id l).length = es.length + 1 := by simp [put]; omega
theorem put_low {es : List (ByteArray × Bool)} {p k : Nat} {id : ByteArray} {l : Bool} {x : ByteArray × Bool} (hk : k < p) (hx : es[k]? = some x) : (put es p id l)[k]? = some x := by
  have := (List.getElem?_eq_some_iff.1 hx).1
  unfold put
  rw [List.getElem?_append_left (by simp; omega), List.getElem?_take, if_pos hk]; exact hx
theorem put_mid (es : List (ByteArray × Bool)) (p : Nat) (id : ByteArray) (l : Bool) (hp : p ≤ es.length) : (put es p id l)[p]? = some (id, l) := by
  unfold put
  rw [List.getElem?_append_right (by simp; omega)]; simp [Nat.min_eq_left hp]
theorem put_high {es : List (ByteArray × Bool)} {p k : Nat} {id : ByteArray} {l : Bool} {x : ByteArray × Bool} (hp : p ≤ es.length) (hk : p ≤ k) (hx : es[k]? = some x) : (put es p id l)[k + 1]? = some x := by
  unfold put
  rw [List.getElem?_append_right (by simp; omega)]
  simp [Nat.min_eq_left hp, show k + 1 - p = (k - p) + 1 by omega, show p + (k - p) = k by omega, hx]

/-- What is owned, as entries. -/
theorem ents_of_own {w : World} {B g len cap : Nat} {bs : List (ByteArray × Bool)} (h : w.ownsRow B 29 2 (.slice (some ⟨g, 0, none⟩) len cap) len (cellsOf bs)) (hl : bs.length = len) (hc : len ≤ cap) (hcm : cap ≤ 4000000) (hs : ∀ x ∈ bs, x.1.size ≤ maxLen) :
    Ents w w.heap.size (some ⟨g, 0, none⟩) len cap bs := by
  refine ⟨hl, fun h0 => ⟨g, 0, rfl, (h.lt g rfl).2, hc, by unfold maxLen; omega, fun j x hx => ?_⟩⟩
  obtain ⟨c1, c2⟩ := cellsOf_at bs j x hx
  have d1 := h.cells (g := g) rfl (j * 2) _ c1
  have d2 := h.cells (g := g) rfl (j * 2 + 1) _ c2
  rw [Addr.add_lit] at d1 d2
  exact ⟨d1, by rw [Nat.add_assoc]; exact d2, hs x (List.mem_of_getElem? hx)⟩
end Go.Proofs.Qxb6630183a
