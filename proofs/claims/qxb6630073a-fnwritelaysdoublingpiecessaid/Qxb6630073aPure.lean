import Derived.Test.Qxb6630073aRoom
import Derived.Test.Qxb6630073aTook
import Derived.Laws.CopyOwn
import Derived.OpenShut
namespace Go.Proofs.Qxb6630073a
open Go.RowKit
set_option linter.unusedVariables false
set_option linter.unusedSimpArgs false

/-! ### Plain facts on pieces -/
def capOf : Nat → Nat
  | 0 => 512
  | i + 1 => min (2 * capOf i) 1048576
theorem capOf_ge (i : Nat) : 512 ≤ capOf i := by
  induction i with
  | zero => simp [capOf]
  | succ i ih => simp only [capOf]; omega
/-- The pieces double, each but the last is full, none is empty. -/
def Good (ps : List Pc) : Prop := ∀ i p, ps[i]? = some p → p.c = capOf i ∧ p.l ≠ [] ∧ (i + 1 < ps.length → p.l.length = p.c)

theorem roomy_flat {ps ps' : List Pc} (h : Roomy ps ps') : flat ps' = flat ps := by
  rcases h with rfl | ⟨rfl, b, rfl⟩ | ⟨qs, p0, b, rfl, _, rfl⟩ <;> simp [flat]
theorem roomy_length {ps ps' : List Pc} (h : Roomy ps ps') : ps'.length ≤ ps.length + 1 := by
  rcases h with rfl | ⟨rfl, b, rfl⟩ | ⟨qs, p0, b, rfl, _, rfl⟩ <;> simp

theorem good_put {qs : List Pc} {p : Pc} {cs : List Int} (h : ∀ i q, (qs ++ [p])[i]? = some q → q.c = capOf i ∧ (i < qs.length → q.l ≠ [] ∧ q.l.length = q.c)) (hcs : cs ≠ []) :
    Good (qs ++ [⟨p.b, p.c, p.l ++ cs⟩]) := by
  intro i q hq
  by_cases hi : i < qs.length
  · have h1 : (qs ++ [p])[i]? = some q := by rw [List.getElem?_append_left hi] at hq ⊢; exact hq
    obtain ⟨e1, e2⟩ := h i q h1
    exact ⟨e1, (e2 hi).1, fun _ => (e2 hi).2⟩
  · rw [List.getElem?_append_right (by omega)] at hq
    have hi0 : i - qs.length = 0 := by
      have := (List.getElem?_eq_some_iff.1 hq).1
      simp at this; omega
    rw [hi0] at hq
    simp at hq
    subst hq
    have := h i p (by rw [List.getElem?_append_right (by omega), hi0]; rfl)
    refine ⟨this.1, by simp [hcs], fun hlt => ?_⟩
    simp at hlt; omega

theorem good_step {ps qs : List Pc} {p : Pc} {cs : List Int} (h : Roomy ps (qs ++ [p])) (hg : Good ps) (hcs : cs ≠ []) :
    Good (qs ++ [⟨p.b, p.c, p.l ++ cs⟩]) := by
  apply good_put _ hcs
  intro i q hq
  rcases h with h | ⟨rfl, b, h⟩ | ⟨qs1, p0, b, rfl, hfull, h⟩
  · rw [h] at hq
    obtain ⟨e1, e2, e3⟩ := hg i q hq
    refine ⟨e1, fun hi => ⟨e2, e3 ?_⟩⟩
    rw [← h]; simp; omega
  · rw [h] at hq
    have hl : (qs ++ [p]).length = 1 := by rw [h]; rfl
    have hi : i = 0 := by have := (List.getElem?_eq_some_iff.1 hq).1; simp at this; omega
    subst hi
    simp at hq
    subst hq
    simp at hl
    exact ⟨rfl, fun h0 => by subst hl; simp at h0⟩
  · have hl : (qs ++ [p]).length = qs1.length + 1 + 1 := by rw [h]; simp
    simp at hl
    rw [h] at hq
    by_cases hi : i < qs1.length + 1
    · rw [List.getElem?_append_left (by simpa using hi)] at hq
      obtain ⟨e1, e2, e3⟩ := hg i q hq
      refine ⟨e1, fun _ => ⟨e2, ?_⟩⟩
      by_cases hi2 : i + 1 < qs1.length + 1
      · exact e3 (by simpa using hi2)
      · have : i = qs1.length := by omega
        subst this
        simp at hq
        subst hq
        exact hfull
    · rw [List.getElem?_append_right (by simp; omega)] at hq
      have hi0 : i - (qs1 ++ [p0]).length = 0 := by
        have := (List.getElem?_eq_some_iff.1 hq).1
        simp at this ⊢; omega
      rw [hi0] at hq
      simp at hq
      subst hq
      have hi1 : i = qs1.length + 1 := by simp at hi0; omega
      have hc := (hg qs1.length p0 (by simp)).1
      refine ⟨?_, fun hlt => by omega⟩
      subst hi1
      show min (max (2 * p0.c) 512) 1048576 = capOf (qs1.length + 1)
      rw [hc]
      have := capOf_ge qs1.length
      simp only [capOf]
      omega

/-- What writing the bytes zs makes of the pieces. -/
structure Wrote (ps : List Pc) (zs : List Int) (ps' : List Pc) : Prop where
  flat : flat ps' = flat ps ++ zs
  len : ps'.length ≤ ps.length + zs.length
  good : Good ps → Good ps'
theorem Wrote.nothing (ps : List Pc) : Wrote ps [] ps := ⟨by simp, by simp, id⟩
theorem Wrote.step {ps0 ps qs : List Pc} {p : Pc} {zs cs : List Int} (h : Wrote ps0 zs ps) (hr : Roomy ps (qs ++ [p])) (hcs : cs ≠ []) :
    Wrote ps0 (zs ++ cs) (qs ++ [⟨p.b, p.c, p.l ++ cs⟩]) := by
  have h1 := roomy_flat hr
  have h2 := roomy_length hr
  refine ⟨?_, ?_, fun hg => good_step hr (h.good hg) hcs⟩
  · rw [← List.append_assoc, ← h.flat, ← h1]; simp [Qxb6630073a.flat]
  · have := h.len
    have h3 : 0 < cs.length := List.length_pos_iff.2 hcs
    simp at h2 ⊢; omega

/-! ### copy at a step of a drawing region; what it makes of the pieces -/
theorem step_copy_row {P : Program} {ops : Array Oper} {o : Oper} {a : Act} {w : World} {K : Act → World → Prop} {Q : Exit → Act → World → Prop} {E : Prop} (hgd : o.guard = none) (d s : Operand) (dT sT : TypeId)
    (ho : o.op = .call { callee := .builtin .copy, args := #[d, s], argTypes := #[dT, sT] }) (elem : TypeId) (hu : P.underlying dT = some (.slice elem)) (hsz : (P.info? elem).map (·.size) = some 1)
    (g off dLen dCap : Nat) (ad : Addr) (sLen sCap : Nat) (hd : a.eval d = .slice (some ⟨g, off, none⟩) dLen dCap) (hs : a.eval s = .slice (some ad) sLen sCap)
    (cur : Array Value) (t : TypeId) (hg : w.heap[g]? = some (.cells cur t (0, 0))) (cs : List Value) (n : Nat) (hcn : cs.length = n) (hn : cs.length = Nat.min sLen dLen)
    (hsrc : ∀ j v, cs[j]? = some v → w.cell? (ad.add j) = some v) (hfit : off + cs.length ≤ cur.size) (h1 : ∀ v ∈ cs, v.oneCell' = true)
    (h : ∀ w', Hid (w' = w.setRow g (cur.toList.take off ++ cs ++ cur.toList.drop (off + cs.length)).toArray) → K (a.put o.dst (goInt n)) w') :
    if Region.wanted o (yielded ops a.tmps) = true then Oper.wp P o a w K Q else E := by
  have hw : Region.wanted o (yielded ops a.tmps) = true := by simp [Region.wanted, hgd]
  subst hcn
  rw [if_pos hw]
  have hrun := run_copy_row (P := P) w dT sT o.type elem g off dLen dCap ad sLen sCap cur t cs hu hsz hg hn hsrc hfit h1
  unfold Oper.wp
  simp [execOp, ho, resolve, invoke, builtin, hd, hs, hrun, Result.andThen]
  exact h _ (show _ = _ by rw [List.append_assoc])

theorem Inv.copied {w w2 : World} {B P N : Nat} {v : Value} {qs : List Pc} {p : Pc} {cs : List Int} {cur : Array Value} (h : Inv w B P v (qs ++ [p]) N)
    (hcur : w.heap[p.b]? = some (.cells cur 5 (0, 0))) (hs : cur.size = p.c) (ht : cur.toList.take p.l.length = p.l.map (Value.int .u8)) (hfit : p.l.length + cs.length ≤ p.c)
    (hw : w2 = w.setRow p.b (cur.toList.take p.l.length ++ cs.map (Value.int .u8) ++ cur.toList.drop (p.l.length + (cs.map (Value.int .u8)).length)).toArray) :
    Inv w2 B P v (qs ++ [p]) N ∧ Below B w w2 ∧ ∃ cur2, w2.heap[p.b]? = some (.cells cur2 5 (0, 0)) ∧ cur2.size = p.c ∧ cur2.toList.take (p.l.length + cs.length) = (p.l ++ cs).map (Value.int .u8) := by
  have hl := h.pc p (by simp)
  have hrow : w2.heap[p.b]? = some (.cells (cur.toList.take p.l.length ++ cs.map (Value.int .u8) ++ cur.toList.drop (p.l.length + (cs.map (Value.int .u8)).length)).toArray 5 (0, 0)) := by
    rw [hw]; exact setRow_heap w p.b _ _ 5 _ hcur
  have hoth : ∀ k, ¬ k = p.b → w2.heap[k]? = w.heap[k]? := fun k hk => by rw [hw]; exact setRow_other w p.b k _ hk
  have hsize : w2.heap.size = w.heap.size := by rw [hw]; simp
  have hgr : w.grownBy w2 (some p.b) := ⟨by rw [hw]; rfl, by rw [hw]; rfl, by rw [hw]; rfl, by rw [hsize]; exact Nat.le_refl _, fun k _ hk => hoth k (fun e => hk (by rw [e]))⟩
  have hP : w2.heap[P]? = w.heap[P]? := hoth P (fun e => hl.offP e.symm)
  have hcl : cur.toList.length = p.c := by simpa using hs
  have hsz2 : (cur.toList.take p.l.length ++ cs.map (Value.int .u8) ++ cur.toList.drop (p.l.length + (cs.map (Value.int .u8)).length)).toArray.size = p.c := by
    simp [hs]; omega
  have htk : (cur.toList.take p.l.length ++ cs.map (Value.int .u8) ++ cur.toList.drop (p.l.length + (cs.map (Value.int .u8)).length)).take (p.l.length + cs.length) = (p.l ++ cs).map (Value.int .u8) := by
    rw [ht, List.take_append_of_le_length (by simp), List.take_of_length_le (by simp)]; simp
  refine ⟨⟨?_, ?_, ?_, h.bP, h.own.kept hgr (.inr hl.offV), h.vP, h.nil, ?_, h.nd⟩, ⟨hgr.os, hgr.tape, hgr.output, hgr.size, fun k hk => hoth k (by have := hl.base; omega)⟩, _, hrow, hsz2, by simpa using htk⟩
  · exact (World.cell?_of_block (a := ⟨P, 0, none⟩) hP).trans h.c0
  · exact (World.cell?_of_block (a := ⟨P, 1, none⟩) hP).trans h.c1
  · exact fun o => (World.frozen?_of_block (a := ⟨P, o, none⟩) hP).trans (h.fz o)
  · intro q hq
    have hlq := h.pc q hq
    refine ⟨hlq.base, hlq.offP, hlq.offV, hlq.fits, hlq.room, ?_⟩
    by_cases e : q.b = p.b
    · have : q = p := by
        rcases List.mem_append.1 hq with hq' | hq'
        · exfalso
          have hnd := h.nd
          rw [List.map_append, List.nodup_append] at hnd
          exact hnd.2.2 q.b (List.mem_map.2 ⟨q, hq', rfl⟩) p.b (by simp) e
        · simpa using hq'
      subst this
      refine ⟨_, hrow, hsz2, ?_⟩
      rw [List.toList_toArray, ht, List.append_assoc, List.take_append_of_le_length (by simp), List.take_of_length_le (by simp)]
    · obtain ⟨c1, c2, c3⟩ := hlq.row
      exact ⟨c1, (hoth _ e).trans c2, c3⟩

theorem Inv.tooked {w : World} {B P N g m cap n : Nat} {qs : List Pc} {p : Pc} {cs : List Int} (h : Inv w B P (.slice (some ⟨g, 0, none⟩) m cap) (qs ++ [p]) N) (hn : cs.length = n)
    (hfit : p.l.length + n ≤ p.c) (hrow : ∃ cur2, w.heap[p.b]? = some (.cells cur2 5 (0, 0)) ∧ cur2.size = p.c ∧ cur2.toList.take (p.l.length + n) = (p.l ++ cs).map (Value.int .u8)) :
    Inv ((w.setCell ⟨g, qs.length, none⟩ (.slice (some ⟨p.b, 0, none⟩) (p.l.length + n) p.c)).setCell ⟨P, 1, none⟩ (.int .i64 (N + n))).drew B P (.slice (some ⟨g, 0, none⟩) m cap) (qs ++ [⟨p.b, p.c, p.l ++ cs⟩]) (N + n) ∧
      Below B w ((w.setCell ⟨g, qs.length, none⟩ (.slice (some ⟨p.b, 0, none⟩) (p.l.length + n) p.c)).setCell ⟨P, 1, none⟩ (.int .i64 (N + n))).drew := by
  have hl := h.pc p (by simp)
  have hgP : ¬ g = P := fun e => h.vP (by simp [Value.ownBlock, e])
  have hBg : B ≤ g := (h.own.lt g rfl).1
  have hoth : ∀ k, ¬ k = g → ¬ k = P → ((w.setCell ⟨g, qs.length, none⟩ (.slice (some ⟨p.b, 0, none⟩) (p.l.length + n) p.c)).setCell ⟨P, 1, none⟩ (.int .i64 (N + n))).drew.heap[k]? = w.heap[k]? := fun k h1 h2 =>
    (Below.heap_setCell _ ⟨P, 1, none⟩ _ k h2).trans (Below.heap_setCell _ ⟨g, qs.length, none⟩ _ k h1)
  have hown0 := h.own
  have hm : m = qs.length + 1 := by
    obtain ⟨g', cap', e, _⟩ := h.last
    simp only [Value.slice.injEq] at e
    exact e.2.1
  subst hm
  have hown := hown0
  rw [List.length_append, List.length_singleton] at hown
  have hst := hown.stored qs.length (.slice (some ⟨p.b, 0, none⟩) (p.l.length + n) p.c)
  have hk := hst.1.kept (grownBy_setCell _ ⟨P, 1, none⟩ (.int .i64 (N + n))) (.inr (by simpa [Value.ownBlock] using hgP))
  refine ⟨⟨?_, ?_, ?_, h.bP, ?_, h.vP, by simp, ?_, by simpa using h.nd⟩, ?_⟩
  · rw [World.cell?_drew, World.cell?_setCell_other _ _ _ _ (by simp), World.cell?_setCell_other _ _ _ _ (by simp [hgP])]
    exact h.c0
  · rw [World.cell?_drew, show ((N + n : Nat) : Int) = (N : Int) + (n : Int) from by omega]
    exact World.cell?_setCell_same (w.setCell ⟨g, qs.length, none⟩ (.slice (some ⟨p.b, 0, none⟩) (p.l.length + n) p.c)) ⟨P, 1, none⟩ (.int .i64 (N + n)) ((World.cell?_setCell_other _ _ _ _ (by simp [hgP])).trans h.c1)
  · intro o
    rw [World.frozen?_drew, World.frozen?_setCell, World.frozen?_setCell]
    exact h.fz o
  · have e : ((qs ++ [p]).map Pc.hd).set qs.length (.slice (some ⟨p.b, 0, none⟩) (p.l.length + n) p.c) = (qs ++ [(⟨p.b, p.c, p.l ++ cs⟩ : Pc)]).map Pc.hd := by
      rw [List.map_append, List.set_append_right _ _ (by simp)]
      simp [Pc.hd, hd, hn]
    rw [e] at hk
    rw [List.length_append, List.length_singleton]
    exact hk.drew
  · intro q hq
    rcases List.mem_append.1 hq with hq' | hq'
    · have hlq := h.pc q (List.mem_append_left _ hq')
      obtain ⟨c1, c2, c3⟩ := hlq.row
      exact ⟨hlq.base, hlq.offP, hlq.offV, hlq.fits, hlq.room, c1, (hoth _ (fun e => hlq.offV (by simp [Value.ownBlock, e])) hlq.offP).trans c2, c3⟩
    · obtain rfl := List.mem_singleton.1 hq'
      obtain ⟨c1, c2, c3, c4⟩ := hrow
      exact ⟨hl.base, hl.offP, hl.offV, by simp [hn, hfit], hl.room, c1, (hoth p.b (fun e => hl.offV (by simp [Value.ownBlock, e])) hl.offP).trans c2, c3, by simpa [hn] using c4⟩
  · have hbP := h.bP
    exact (((Below.refl B w).setCell (p := ⟨g, qs.length, none⟩) hBg _).setCell (p := ⟨P, 1, none⟩) hbP _).drew

/-- took, behind the copy. -/
theorem tookInv {w : World} {B P N n : Nat} {v : Value} {qs : List Pc} {p : Pc} {cs : List Int} (h : Inv w B P v (qs ++ [p]) N) (hn : cs.length = n) (hq : qs.length ≤ 4000000) (hN : N ≤ 4000000)
    (hfit : p.l.length + n ≤ p.c) (hrow : ∃ cur2, w.heap[p.b]? = some (.cells cur2 5 (0, 0)) ∧ cur2.size = p.c ∧ cur2.toList.take (p.l.length + n) = (p.l ++ cs).map (Value.int .u8)) :
    Calls Try.prog 13 #[.pointer (some ⟨P, 0, none⟩), .int .i64 n] w fun e w' => e = .returned (.tuple #[]) ∧ Inv w' B P v (qs ++ [⟨p.b, p.c, p.l ++ cs⟩]) (N + n) ∧ Below B w w' := by
  obtain ⟨g, cap, rfl, _, _, hgP, hcell, hfz⟩ := h.last
  refine (took_any P g qs.length cap p.b p.l.length p.c n N w h.c0 h.c1 (h.fz 1) hcell hfz hgP hq hfit (by have := (h.pc p (by simp)).room; omega) hN).mono ?_
  rintro e w' ⟨rfl, rfl⟩
  exact ⟨rfl, h.tooked hn hfit hrow⟩
end Go.Proofs.Qxb6630073a
