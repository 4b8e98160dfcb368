import Derived.Test.Qxb6630073aGrow
namespace Go.Proofs.Qxb6630073a
open Go.RowKit
set_option linter.unusedVariables false
set_option linter.unusedSimpArgs false

/-- A piece: its block, its room, the bytes that it holds. -/
structure Pc where
  b : Nat
  c : Nat
  l : List Int
def Pc.hd (p : Pc) : Value := Go.Proofs.Qxb6630073a.hd p.b p.l.length p.c
/-- The bytes that the pieces hold, one behind another. -/
def flat (ps : List Pc) : List Int := ps.flatMap Pc.l

/-- One piece lies in the world. -/
structure Lies (w : World) (B P : Nat) (v : Value) (p : Pc) : Prop where
  base : B ≤ p.b
  offP : ¬ p.b = P
  offV : ¬ v.ownBlock = some p.b
  fits : p.l.length ≤ p.c
  room : p.c ≤ 1048576
  row : ∃ cur, w.heap[p.b]? = some (.cells cur 5 (0, 0)) ∧ cur.size = p.c ∧ cur.toList.take p.l.length = p.l.map (Value.int .u8)

/-- A buffer of pieces lies at block P; all of it from block B on. -/
structure Inv (w : World) (B P : Nat) (v : Value) (ps : List Pc) (N : Nat) : Prop where
  c0 : w.cell? ⟨P, 0, none⟩ = some v
  c1 : w.cell? ⟨P, 1, none⟩ = some (.int .i64 N)
  fz : ∀ o, w.frozen? ⟨P, o, none⟩ = false
  bP : B ≤ P
  own : w.ownsRow B 22 1 v ps.length (ps.map Pc.hd)
  vP : ¬ v.ownBlock = some P
  nil : ps = [] → v = .slice none 0 0
  pc : ∀ p ∈ ps, Lies w B P v p
  nd : (ps.map Pc.b).Nodup

theorem Inv.ltP {w : World} {B P N : Nat} {v : Value} {ps : List Pc} (h : Inv w B P v ps N) : P < w.heap.size := World.block_lt_of_cell? w ⟨P, 0, none⟩ h.c0

theorem Lies.lt {w : World} {B P : Nat} {v : Value} {p : Pc} (h : Lies w B P v p) : p.b < w.heap.size := by
  obtain ⟨cur, hb, _⟩ := h.row
  exact (Array.getElem?_eq_some_iff.1 hb).1

/-- The last piece's header. -/
theorem Inv.last {w : World} {B P N : Nat} {v : Value} {qs : List Pc} {p : Pc} (h : Inv w B P v (qs ++ [p]) N) :
    ∃ g cap, v = .slice (some ⟨g, 0, none⟩) (qs.length + 1) cap ∧ B ≤ g ∧ g < w.heap.size ∧ ¬ g = P ∧ w.cell? ⟨g, qs.length, none⟩ = some p.hd ∧ w.frozen? ⟨g, qs.length, none⟩ = false := by
  have hown := h.own
  rw [List.length_append, List.length_singleton] at hown
  obtain ⟨g, cap, hv, hb, hlt⟩ := hown.form (by omega)
  subst hv
  refine ⟨g, cap, rfl, hb, hlt, fun e => h.vP (by simp [Value.ownBlock, e]), ?_, hown.frozenAt _⟩
  have := hown.cells (g := g) rfl qs.length p.hd (by simp)
  simpa [Addr.add_lit] using this

theorem grownBy_setCell (w : World) (a : Addr) (u : Value) : w.grownBy (w.setCell a u) (some a.block) :=
  ⟨rfl, rfl, rfl, by simp [World.setCell], fun k _ hk => Below.heap_setCell _ _ _ _ (fun e => hk (by rw [e]))⟩

theorem Inv.grew {w w' : World} {B P N n : Nat} {v : Value} {ps : List Pc} (h : Inv w B P v ps N) (hg : Grew B P n ps.length v (ps.map Pc.hd) w w') (hn : n ≤ 1048576) :
    ∃ g cap, Inv w' B P (.slice (some ⟨g, 0, none⟩) (ps.length + 1) cap) (ps ++ [⟨w.heap.size, n, []⟩]) N ∧ Below B w w' := by
  obtain ⟨k, g, cap, w1, rfl, hown, hgr, hat, hlt⟩ := hg
  have hPs := h.ltP
  have hvlt := h.own.lt
  have hgP : ¬ g = P := by
    rcases hat with e | e
    · intro e2; exact h.vP (by rw [e, e2])
    · omega
  have hold : ∀ j, j < w.heap.size → ¬ v.ownBlock = some j → w1.heap[j]? = w.heap[j]? := fun j hj hv =>
    (hgr.block j (by rw [size_atApp]; omega) (fun e => hv e.symm)).trans (old_atApp w k n j hj)
  have hnew : w1.heap[w.heap.size]? = some (fresh n) :=
    (hgr.block _ (by rw [size_atApp]; omega) (fun e => by have := hvlt _ e.symm; omega)).trans (new_atApp w k n)
  have hsz : w.heap.size + 2 ≤ w1.heap.size := by have := hgr.size; rw [size_atApp] at this; exact this
  have hP1 : ∀ o, w1.cell? ⟨P, o, none⟩ = w.cell? ⟨P, o, none⟩ := fun o => World.cell?_of_block (a := ⟨P, o, none⟩) (hold P hPs h.vP)
  have hF1 : ∀ o, w1.frozen? ⟨P, o, none⟩ = w.frozen? ⟨P, o, none⟩ := fun o => World.frozen?_of_block (a := ⟨P, o, none⟩) (hold P hPs h.vP)
  have hset : ∀ j, ¬ j = P → (w1.setCell ⟨P, 0, none⟩ (.slice (some ⟨g, 0, none⟩) (ps.length + 1) cap)).heap[j]? = w1.heap[j]? := fun j hj => Below.heap_setCell _ _ _ _ hj
  refine ⟨g, cap, ⟨?_, ?_, ?_, h.bP, ?_, ?_, ?_, ?_, ?_⟩, ?_⟩
  · exact World.cell?_setCell_same _ _ _ ((hP1 0).trans h.c0)
  · rw [World.cell?_setCell_other _ _ _ _ (by simp)]
    exact (hP1 1).trans h.c1
  · intro o
    rw [World.frozen?_setCell]
    exact (hF1 o).trans (h.fz o)
  · have := hown.kept (grownBy_setCell w1 ⟨P, 0, none⟩ (.slice (some ⟨g, 0, none⟩) (ps.length + 1) cap)) (.inr (by simpa [Value.ownBlock] using hgP))
    simpa [Pc.hd] using this
  · simpa [Value.ownBlock] using hgP
  · intro e; simp at e
  · intro p hp
    rcases List.mem_append.1 hp with hp | hp
    · have hl := h.pc p hp
      obtain ⟨cur, h1, h2, h3⟩ := hl.row
      refine ⟨hl.base, hl.offP, ?_, hl.fits, hl.room, cur, ?_, h2, h3⟩
      · intro e
        have e : g = p.b := by simpa [Value.ownBlock] using e
        rcases hat with e2 | e2
        · exact hl.offV (by rw [e2, e])
        · have := hl.lt; omega
      · rw [hset _ hl.offP, hold _ hl.lt hl.offV]; exact h1
    · obtain rfl := List.mem_singleton.1 hp
      refine ⟨?_, ?_, ?_, by simp, hn, madeCells #[.int .u8 0] n, ?_, size_madeCells _ _, by simp⟩
      · show B ≤ w.heap.size
        have := h.bP; omega
      · show ¬ w.heap.size = P
        omega
      · intro e
        have e : g = w.heap.size := by simpa [Value.ownBlock] using e
        rcases hat with e2 | e2
        · have := hvlt _ e2; omega
        · omega
      · show (w1.setCell _ _).heap[w.heap.size]? = _
        rw [hset _ (by omega), hnew]; rfl
  · rw [List.map_append, List.nodup_append]
    refine ⟨h.nd, by simp, ?_⟩
    intro a ha b hb
    obtain ⟨p, hp, rfl⟩ := List.mem_map.1 ha
    simp at hb
    subst hb
    have := (h.pc p hp).lt
    omega
  · refine ⟨?_, ?_, ?_, ?_, ?_⟩
    · exact hgr.os
    · exact hgr.tape
    · exact hgr.output
    · simp [World.setCell]; omega
    · intro j hj
      have := h.bP
      rw [hset j (by omega)]
      exact hold j (by omega) (fun e => by have := hvlt _ e; omega)

theorem growInv_nil {w : World} {B P N : Nat} {v : Value} (n : Nat) (h : Inv w B P v [] N) (hn : n ≤ 1048576) :
    Calls Try.prog 6 #[.pointer (some ⟨P, 0, none⟩), .int .i64 n] w fun e w' => e = .returned (.tuple #[]) ∧
      ∃ g cap, Inv w' B P (.slice (some ⟨g, 0, none⟩) (0 + 1) cap) [⟨w.heap.size, n, []⟩] N ∧ Below B w w' := by
  have hv := h.nil rfl
  subst hv
  refine (grow_nil B P n w h.c0 (h.fz 0) h.bP h.ltP (by omega)).mono fun e w' ⟨he, hg⟩ => ⟨he, ?_⟩
  simpa using h.grew hg hn

theorem growInv_some {w : World} {B P N : Nat} {v : Value} {qs : List Pc} {p : Pc} (n : Nat) (h : Inv w B P v (qs ++ [p]) N) (hfew : p.c < p.l.length + n) (hq : qs.length ≤ 4000000) (hn : n ≤ 1048576) :
    Calls Try.prog 6 #[.pointer (some ⟨P, 0, none⟩), .int .i64 n] w fun e w' => e = .returned (.tuple #[]) ∧
      ∃ g cap, Inv w' B P (.slice (some ⟨g, 0, none⟩) (qs.length + 1 + 1) cap) (qs ++ [p] ++ [⟨w.heap.size, n, []⟩]) N ∧ Below B w w' := by
  obtain ⟨g, cap, rfl, _, _, hgP, hcell, _⟩ := h.last
  have hl := h.pc p (by simp)
  have hown := h.own
  rw [List.length_append, List.length_singleton] at hown
  refine (grow_some B P n qs.length g cap p.b p.l.length p.c _ w h.c0 (h.fz 0) hown hcell hl.fits (by have := hl.room; omega) hfew hgP hq h.bP h.ltP (by omega)).mono fun e w' ⟨he, hg⟩ => ⟨he, ?_⟩
  have := h.grew (n := n) (by simpa using hg) hn
  simpa using this
end Go.Proofs.Qxb6630073a
