import Derived.Test.Qxb6630073aInv
namespace Go.Proofs.Qxb6630073a
open Go.RowKit
set_option linter.unusedVariables false
set_option linter.unusedSimpArgs false

/-- What room leaves: the last piece has room. -/
def Roomy (ps ps' : List Pc) : Prop :=
  ps' = ps ∨ (ps = [] ∧ ∃ b, ps' = [⟨b, 512, []⟩]) ∨ (∃ qs p0 b, ps = qs ++ [p0] ∧ p0.l.length = p0.c ∧ ps' = qs ++ [p0] ++ [⟨b, min (max (2 * p0.c) 512) 1048576, []⟩])

theorem Inv.drewN {w : World} {B P N : Nat} {v : Value} {ps : List Pc} (h : Inv w B P v ps N) (k : Nat) : Inv (w.drewN k) B P v ps N :=
  ⟨h.c0, h.c1, h.fz, h.bP, h.own, h.vP, h.nil, fun p hp => ⟨(h.pc p hp).base, (h.pc p hp).offP, (h.pc p hp).offV, (h.pc p hp).fits, (h.pc p hp).room, (h.pc p hp).row⟩, h.nd⟩
theorem Below.drewN {B : Nat} {a w : World} (h : Below B a w) (k : Nat) : Below B a (w.drewN k) := ⟨h.os, h.tape, h.output, h.size, h.block⟩

/-- The last header, as the walk spells it. -/
theorem Inv.tail {w : World} {B P N g m cap : Nat} {qs : List Pc} {p : Pc} (h : Inv w B P (.slice (some ⟨g, 0, none⟩) m cap) (qs ++ [p]) N) :
    w.cell? ⟨g, qs.length, none⟩ = some (.slice (some ⟨p.b, 0, none⟩) p.l.length p.c) := by
  obtain ⟨g', cap', e1, _, _, _, hcell, _⟩ := h.last
  simp only [Value.slice.injEq, Option.some.injEq, Addr.mk.injEq, and_true, true_and] at e1
  obtain ⟨rfl, _, rfl⟩ := e1
  exact hcell

set_option maxHeartbeats 1000000 in
theorem room_nil {w : World} {B P N : Nat} {v : Value} (h : Inv w B P v [] N) :
    Calls Try.prog 12 #[.pointer (some ⟨P, 0, none⟩)] w fun e w' => ∃ v' qs p, Inv w' B P v' (qs ++ [p]) N ∧ p.l.length < p.c ∧
      e = .returned (.slice (some ⟨p.b, p.l.length, none⟩) (p.c - p.l.length) (p.c - p.l.length)) ∧ Below B w w' ∧ Roomy [] (qs ++ [p]) := by
  have hv := h.nil rfl
  subst hv
  have hc0 := h.c0
  go_enter Try.func12, Try.ntmps12
  go_wp2_with (go_at_call 6; refine (growInv_nil 512 h (by omega)).mono ?_; rintro e w1 ⟨rfl, g, cap, hi1, hb1⟩; have hc1 := hi1.c0; have hcell := Inv.tail (qs := []) hi1; simp only [List.length_nil] at hcell)
  go_quiet (fail)
  go_wp2
  go_ret
  exact ⟨_, [], _, hi1.drewN _, by simp, rfl, Below.drewN hb1 _, .inr (.inl ⟨rfl, _, rfl⟩)⟩

theorem growInv_some' {w : World} {B P N : Nat} {v : Value} {qs : List Pc} {p : Pc} (n : Nat) (z : Int) (h : Inv w B P v (qs ++ [p]) N) (hz : z = (n : Int)) (hfew : p.c < p.l.length + n) (hq : qs.length ≤ 4000000) (hn : n ≤ 1048576) :
    Calls Try.prog 6 #[.pointer (some ⟨P, 0, none⟩), .int .i64 z] w fun e w' => e = .returned (.tuple #[]) ∧
      ∃ g cap, Inv w' B P (.slice (some ⟨g, 0, none⟩) (qs.length + 1 + 1) cap) (qs ++ [p] ++ [⟨w.heap.size, n, []⟩]) N ∧ Below B w w' := by
  subst hz
  exact growInv_some n h hfew hq hn

set_option maxRecDepth 100000 in
set_option maxHeartbeats 1000000 in
theorem room_full {w : World} {B P N : Nat} {v : Value} {qs : List Pc} {p : Pc} (h : Inv w B P v (qs ++ [p]) N) (hq : qs.length ≤ 3000000) (hfull : p.l.length = p.c) :
    Calls Try.prog 12 #[.pointer (some ⟨P, 0, none⟩)] w fun e w' => ∃ v' qs' p', Inv w' B P v' (qs' ++ [p']) N ∧ p'.l.length < p'.c ∧
      e = .returned (.slice (some ⟨p'.b, p'.l.length, none⟩) (p'.c - p'.l.length) (p'.c - p'.l.length)) ∧ Below B w w' ∧ Roomy (qs ++ [p]) (qs' ++ [p']) := by
  obtain ⟨g0, cap0, hv, -⟩ := h.last
  subst hv
  have hc0 := h.c0
  have hl0 := h.tail
  have hr := (h.pc p (by simp)).room
  have HF : Hid (p.l.length = p.c) := hfull
  rw [hfull] at hl0
  clear hfull
  have hd : decide ((qs.length : Int) < 0) = false := by simp
  obtain ⟨n, HN⟩ : ∃ n, Hid (n = min (max (2 * p.c) 512) 1048576) := ⟨_, rfl⟩
  have hn1 : 1 ≤ n ∧ n ≤ 1048576 := by have := HN.out; omega
  have hfew : p.c < p.l.length + n := by have := HF.out; omega
  have hcase : (2 * (p.c : Int) < 512) ∨ (512 ≤ 2 * (p.c : Int) ∧ 2 * (p.c : Int) ≤ 1048576) ∨ (1048576 < 2 * (p.c : Int)) := by omega
  rcases hcase with hk | hk | hk
  all_goals
    go_enter Try.func12, Try.ntmps12
    go_wp2_with (go_at_call 6; refine (growInv_some' n _ h (by have := HN.out; omega) hfew (by omega) hn1.2).mono ?_; rintro e w1 ⟨rfl, g, cap, hi1, hb1⟩; have hc1 := hi1.c0; have hcell := hi1.tail; simp only [List.length_append, List.length_singleton, List.length_nil] at hcell)
    go_quiet (fail)
    go_wp2
    go_ret
    exact ⟨_, _, _, hi1.drewN _, hn1.1, rfl, Below.drewN hb1 _, .inr (.inr ⟨qs, p, _, rfl, HF.out, by rw [HN.out]⟩)⟩

set_option maxHeartbeats 1000000 in
theorem room_spare {w : World} {B P N : Nat} {v : Value} {qs : List Pc} {p : Pc} (h : Inv w B P v (qs ++ [p]) N) (hq : qs.length ≤ 3000000) (hfull : p.l.length < p.c) :
    Calls Try.prog 12 #[.pointer (some ⟨P, 0, none⟩)] w fun e w' => ∃ v' qs' p', Inv w' B P v' (qs' ++ [p']) N ∧ p'.l.length < p'.c ∧
      e = .returned (.slice (some ⟨p'.b, p'.l.length, none⟩) (p'.c - p'.l.length) (p'.c - p'.l.length)) ∧ Below B w w' ∧ Roomy (qs ++ [p]) (qs' ++ [p']) := by
  obtain ⟨g0, cap0, hv, -⟩ := h.last
  subst hv
  have hc0 := h.c0
  have hl0 := h.tail
  have hr := (h.pc p (by simp)).room
  have hd : decide ((qs.length : Int) < 0) = false := by simp
  go_enter Try.func12, Try.ntmps12
  go_wp2
  go_quiet (fail)
  go_wp2
  go_ret
  exact ⟨_, _, _, h.drewN _, hfull, rfl, Below.drewN (Below.refl _ _) _, .inl rfl⟩

/-- room, whatever the pieces. -/
theorem room_any {w : World} {B P N : Nat} {v : Value} {ps : List Pc} (h : Inv w B P v ps N) (hq : ps.length ≤ 3000000) :
    Calls Try.prog 12 #[.pointer (some ⟨P, 0, none⟩)] w fun e w' => ∃ v' qs' p', Inv w' B P v' (qs' ++ [p']) N ∧ p'.l.length < p'.c ∧
      e = .returned (.slice (some ⟨p'.b, p'.l.length, none⟩) (p'.c - p'.l.length) (p'.c - p'.l.length)) ∧ Below B w w' ∧ Roomy ps (qs' ++ [p']) := by
  rcases List.eq_nil_or_concat ps with rfl | ⟨qs, p, rfl⟩
  · exact room_nil h
  · rw [List.concat_eq_append] at h hq ⊢
    simp only [List.length_append, List.length_singleton] at hq
    by_cases hf : p.l.length < p.c
    · exact room_spare h (by omega) hf
    · have := (h.pc p (by simp)).fits
      exact room_full h (by omega) (by omega)
end Go.Proofs.Qxb6630073a
