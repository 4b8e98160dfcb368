import Derived.Test.Qxb6630073aHeld
namespace Go.Proofs.Qxb6630073a
open Go.RowKit
set_option linter.unusedVariables false
set_option linter.unusedSimpArgs false

/-! ### The law's own memory -/
theorem Src.carry {w w' : World} {B B' len cap : Nat} {a : Option Addr} {zs : List Int} (h : Src w B a len cap zs) (hb : Below B w w') (hB : B ≤ B') : Src w' B' a len cap zs := by
  refine ⟨h.1, fun h0 => ?_⟩
  obtain ⟨xb, xo, e, hx, h1, h2, h3⟩ := h.2 h0
  exact ⟨xb, xo, e, by omega, h1, h2, fun j hj => (hb.cell (p := ⟨xb, xo + j, none⟩) hx).trans (h3 j hj)⟩

theorem Inv.carry {w w' : World} {B B' P N : Nat} {v : Value} {ps : List Pc} (h : Inv w B P v ps N) (hb : Below B' w w') (hB : w.heap.size ≤ B') : Inv w' B P v ps N := by
  have hs : ∀ k, k < w.heap.size → w'.heap[k]? = w.heap[k]? := fun k hk => hb.block k (by omega)
  have hP := hs P h.ltP
  refine ⟨?_, ?_, ?_, h.bP, ?_, h.vP, h.nil, ?_, h.nd⟩
  · exact (World.cell?_of_block (a := ⟨P, 0, none⟩) hP).trans h.c0
  · exact (World.cell?_of_block (a := ⟨P, 1, none⟩) hP).trans h.c1
  · exact fun o => (World.frozen?_of_block (a := ⟨P, o, none⟩) hP).trans (h.fz o)
  · refine h.own.kept (row := none) ⟨hb.os, hb.tape, hb.output, hb.size, fun k hk _ => hs k hk⟩ ?_
    cases hv : v.ownBlock
    · exact .inl rfl
    · exact .inr (by simp)
  · intro p hp
    have hl := h.pc p hp
    obtain ⟨cur, h1, h2⟩ := hl.row
    exact ⟨hl.base, hl.offP, hl.offV, hl.fits, hl.room, cur, (hs _ hl.lt).trans h1, h2⟩

/-- The empty buffer, just made. -/
theorem Inv.made (w : World) : Inv (w.alloc (.cells #[.slice none 0 0, .int .i64 0] 26)) w.heap.size w.heap.size (.slice none 0 0) [] 0 := by
  have hn := heap_alloc_new w (.cells #[.slice none 0 0, .int .i64 0] 26)
  refine ⟨?_, ?_, ?_, Nat.le_refl _, World.ownsRow_nil _ _ _ _, by simp [Value.ownBlock], fun _ => rfl, by simp, by simp⟩
  · rw [cell_of_row _ _ _ _ _ _ hn]; rfl
  · rw [cell_of_row _ _ _ _ _ _ hn]; rfl
  · intro o; exact frozen_of_row _ _ _ _ _ hn

/-- The joined bytes, as far as they have been laid. -/
def lay (ys : List Int) (k : Nat) : Nat → Value := fun j => .int .u8 (if j < k then ys.getD j 0 else 0)

theorem lay_start (w : World) (ys : List Int) (T : Nat) : (w.alloc (fresh T)).rowIs w.heap.size 5 T (lay ys 0) :=
  (World.rowIs_made w (.int .u8 0) T 5).congr fun i _ => by simp [lay]
theorem lay_step {w : World} {A T k : Nat} {ys : List Int} {x : Int} (h : w.rowIs A 5 T (lay ys k)) (hx : ys.getD k 0 = x) : (w.setCell ⟨A, k, none⟩ (.int .u8 x)).rowIs A 5 T (lay ys (k + 1)) :=
  (h.set k (.int .u8 x)).congr fun i _ => by
    subst hx
    simp only [lay]
    by_cases e : i = k
    · subst e; simp
    · rw [if_neg e]
      by_cases h2 : i < k
      · rw [if_pos h2, if_pos (by omega)]
      · rw [if_neg h2, if_neg (by omega)]
theorem lay_src {w : World} {A T : Nat} {ys : List Int} (h : w.rowIs A 5 T (lay ys T)) (hl : ys.length = T) (hT : T ≤ 1048576) : Src w (A + 1) (some ⟨A, 0, none⟩) T T ys := by
  refine ⟨hl, fun _ => ⟨A, 0, rfl, by omega, Nat.le_refl _, by unfold maxLen; omega, fun j hj => ?_⟩⟩
  rw [Nat.zero_add, h.cell hj]
  simp [lay, hj]

theorem make_full (T : Nat) (z : Int) (hz : z = (T : Int)) (hT : T ≤ 1048576) (w : World) :
    (Instr.makeSlice 22 (.int .i64 z) (.int .i64 z)).run Try.prog w = .ok (.slice (some ⟨w.heap.size, 0, none⟩) T T) (w.alloc (fresh T)) := by
  subst hz
  exact run_make_row' (P := Try.prog) 22 5 (.int .u8 0) 1 Try.underlying22 Try.info5 rfl .i64 .i64 T (by omega) (by omega) w

theorem heldN {w : World} {B P N : Nat} {v : Value} {ps : List Pc} (z : Int) (h : Inv w B P v ps N) (hz : z = (N : Int)) :
    Calls Try.prog 8 #[.pointer (some ⟨P, 0, none⟩)] w fun e w' => e = .returned (.int .i64 z) ∧ w = w' := by
  subst hz
  have h1 := h.c1
  go_enter Try.func8, Try.ntmps8
  go_wp2
  go_ret
  exact ⟨rfl, rfl⟩
theorem piecesOf {w : World} {B P N : Nat} {ao : Option Addr} {m cp : Nat} {ps : List Pc} (h : Inv w B P (.slice ao m cp) ps N) :
    Calls Try.prog 10 #[.pointer (some ⟨P, 0, none⟩)] w fun e w' => e = .returned (.slice ao m cp) ∧ w = w' := by
  have h1 := h.c0
  go_enter Try.func10, Try.ntmps10
  go_wp2
  go_ret
  exact ⟨rfl, rfl⟩

theorem zz5_true (a b : Option Addr) (la ca lb cb : Nat) (g : Int) (w : World) (h : la + lb ≤ 1048576) :
    Calls Try.prog 5 #[.slice a la ca, .slice b lb cb, .int .i64 g] w fun e w' => e = .returned (.bool true) ∧ w = w' := by
  go_enter Try.func5, Try.ntmps5
  go_wp2
  go_ret
  exact ⟨rfl, rfl⟩
theorem zz5_false (a b : Option Addr) (la ca lb cb : Nat) (g : Int) (w : World) (h : 1048576 < la + lb) (ha : la ≤ 9223372036854775807) (hb : lb ≤ 9223372036854775807) :
    Calls Try.prog 5 #[.slice a la ca, .slice b lb cb, .int .i64 g] w fun e w' => e = .returned (.bool false) ∧ w = w' := by
  by_cases h1 : la ≤ 1048576
  · by_cases h2 : lb ≤ 1048576
    all_goals
      go_enter Try.func5, Try.ntmps5
      go_wp2
      go_ret
      exact ⟨rfl, rfl⟩
  · go_enter Try.func5, Try.ntmps5
    go_wp2
    go_ret
    exact ⟨rfl, rfl⟩
theorem zz11_true (a b : Option Addr) (la ca lb cb : Nat) (w : World) (h : la + lb ≤ 1048576) :
    Calls Try.prog 11 #[.slice a la ca, .slice b lb cb] w fun e w' => e = .returned (.bool true) ∧ w = w' := by
  go_enter Try.func11, Try.ntmps11
  go_wp2
  go_ret
  exact ⟨rfl, rfl⟩
theorem zz11_false (a b : Option Addr) (la ca lb cb : Nat) (w : World) (h : 1048576 < la + lb) (ha : la ≤ 9223372036854775807) (hb : lb ≤ 9223372036854775807) :
    Calls Try.prog 11 #[.slice a la ca, .slice b lb cb] w fun e w' => e = .returned (.bool false) ∧ w = w' := by
  by_cases h1 : la ≤ 1048576
  · by_cases h2 : lb ≤ 1048576
    all_goals
      go_enter Try.func11, Try.ntmps11
      go_wp2
      go_ret
      exact ⟨rfl, rfl⟩
  · go_enter Try.func11, Try.ntmps11
    go_wp2
    go_ret
    exact ⟨rfl, rfl⟩

/-- WHAT THE WALK IS TOLD OF A SLICE OF INTEGERS THAT CAME IN: it is nil; or it leads to a row of 'cap' cells, the numbers 'zs' (the first 'len' are its elements, the rest its spare room), each fitting its kind. -/
def IsRow (k : IntKind) (w : World) (a : Option Addr) (len cap : Nat) (zs : List Int) : Prop :=
  (a = none ∧ len = 0 ∧ cap = 0 ∧ zs = []) ∨
  ∃ x, a = some x ∧ len ≤ cap ∧ cap ≤ maxLen ∧ zs.length = cap ∧ (∀ i, i < zs.length → w.cell? (x.add i) = some (.int k (zs.getD i 0))) ∧ ∀ n ∈ zs, (Lit.int k n).wf = true

theorem IsRow.src {w : World} {a : Option Addr} {len cap : Nat} {zs : List Int} (h : IsRow .u8 w a len cap zs) : ∃ ys, Src w w.heap.size a len cap ys ∧ len ≤ 9223372036854775807 := by
  rcases h with ⟨rfl, rfl, rfl, rfl⟩ | ⟨x, rfl, hl, hm, hz, hc, _⟩
  · exact ⟨[], ⟨rfl, fun h => by omega⟩, by omega⟩
  · have hm' := hm
    unfold maxLen at hm'
    refine ⟨zs.take len, ⟨by simp; omega, fun h0 => ?_⟩, by omega⟩
    obtain ⟨b, off, rfl, hc'⟩ := ints_at hc (by omega)
    refine ⟨b, off, rfl, World.block_lt_of_cell? w ⟨b, off + 0, none⟩ (hc' 0 (by omega)), hl, hm, fun j hj => ?_⟩
    rw [hc' j (by omega)]
    simp [List.getD, List.getElem?_take, hj]
end Go.Proofs.Qxb6630073a
