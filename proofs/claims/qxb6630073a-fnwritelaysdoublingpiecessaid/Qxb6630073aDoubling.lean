import Derived.Test.Qxb6630073aShared
namespace Go.Proofs.Qxb6630073a
open Go.RowKit
set_option linter.unusedVariables false
set_option linter.unusedSimpArgs false

theorem good_rest {ps : List Pc} {i : Nat} (hg : Good ps) (hi : i < ps.length) : 0 < (flat (ps.drop i)).length := by
  obtain ⟨_, h2, _⟩ := hg i ps[i] (List.getElem?_eq_getElem hi)
  rw [List.drop_eq_getElem_cons hi]
  have : 0 < ps[i].l.length := List.length_pos_iff.2 h2
  have e : flat (ps[i] :: ps.drop (i + 1)) = ps[i].l ++ flat (ps.drop (i + 1)) := by
    have := flat_mid [] (ps.drop (i + 1)) ps[i]
    simpa [flat] using this
  rw [e, List.length_append]; omega
theorem flat_parts (ps : List Pc) (i : Nat) : (flat ps).length = (flat (ps.take i)).length + (flat (ps.drop i)).length := by
  have h : flat ps = flat (ps.take i) ++ flat (ps.drop i) := by
    have : flat (ps.take i ++ ps.drop i) = flat (ps.take i) ++ flat (ps.drop i) := List.flatMap_append
    rwa [List.take_append_drop] at this
  rw [h, List.length_append]
theorem dbl_end {ps : List Pc} {i T : Nat} (hg : Good ps) (hT : (flat ps).length = T) (hR : (flat (ps.take i)).length = T) (hi : i ≤ ps.length) : i = ps.length := by
  rcases Nat.lt_or_ge i ps.length with h | h
  · have h1 := good_rest hg h
    have h2 := flat_parts ps i
    omega
  · omega
theorem dbl_round {ps : List Pc} {i T R : Nat} (hg : Good ps) (hfit : ∀ p ∈ ps, p.l.length ≤ p.c) (hT : (flat ps).length = T) (hR : R + (flat (ps.take i)).length = T) (hi : i ≤ ps.length) (hpos : 0 < R) :
    ∃ p, i < ps.length ∧ ps[i]? = some p ∧ p.c = capOf i ∧ (capOf i < R → p.l.length = capOf i) ∧ (R ≤ capOf i → p.l.length = R) := by
  have hlt : i < ps.length := by
    rcases Nat.lt_or_ge i ps.length with h | h
    · exact h
    · rw [List.take_of_length_le h] at hR; omega
  have hp := List.getElem?_eq_getElem hlt
  generalize ps[i] = p at hp
  obtain ⟨h1, h2, h3⟩ := hg i p hp
  have hf := hfit p (List.mem_of_getElem? hp)
  have hs := flat_parts ps (i + 1)
  rw [flat_take_succ hp, List.length_append] at hs
  refine ⟨p, hlt, hp, h1, fun hc => ?_, fun hc => ?_⟩
  · rcases Nat.lt_or_ge (i + 1) ps.length with h | h
    · rw [h3 h, h1]
    · rw [List.drop_of_length_le h] at hs
      simp [flat] at hs
      simp [flat] at hR hT
      omega
  · rcases Nat.lt_or_ge (i + 1) ps.length with h | h
    · have := good_rest hg h
      have := h3 h
      omega
    · rw [List.drop_of_length_le h] at hs
      simp [flat] at hs
      simp [flat] at hR hT
      omega

set_option maxHeartbeats 1000000 in
theorem dbl_long (a b : Option Addr) (la ca lb cb : Nat) (w : World) (h : 1048576 < la + lb) (ha : la ≤ 9223372036854775807) (hb : lb ≤ 9223372036854775807) :
    Calls Try.prog 4 #[.slice a la ca, .slice b lb cb] w fun e w' => e = .returned (.bool true) ∧ Below w.heap.size w w' := by
  go_enter Try.func4, Try.ntmps4
  go_wp2_with (go_at_call 11; refine (zz11_false a b la ca lb cb w h ha hb).mono ?_; rintro e w' ⟨rfl, rfl⟩)
  go_ret
  exact ⟨rfl, Below.refl _ _⟩

set_option maxRecDepth 100000 in
set_option maxHeartbeats 4000000 in
theorem dbl_in (a b : Option Addr) (la ca lb cb : Nat) (ya yb : List Int) (w : World) (h : la + lb ≤ 1048576)
    (ha : Src w w.heap.size a la ca ya) (hb : Src w w.heap.size b lb cb yb) :
    Calls Try.prog 4 #[.slice a la ca, .slice b lb cb] w fun e w' => e = .returned (.bool true) ∧ Below w.heap.size w w' := by
  have hmk := make_full (la + lb) ((la : Int) + (lb : Int)) (by omega) h
  have HYL : Hid ((ya ++ yb).length = la + lb) := by show _ = _; rw [List.length_append, ha.1, hb.1]
  have HYA : Hid (∀ j, j < la → (ya ++ yb).getD j 0 = ya.getD j 0) := fun j hj => by simp [List.getD, List.getElem?_append_left, ha.1, hj]
  have HYB : Hid (∀ j, j < lb → (ya ++ yb).getD (la + j) 0 = yb.getD j 0) := fun j hj => by simp [List.getD, List.getElem?_append_right, ha.1]
  go_enter Try.func4, Try.ntmps4
  go_wp2_with (go_at_call 11; refine (zz11_true a b la ca lb cb w h).mono ?_; rintro e w' ⟨rfl, rfl⟩)
  go_loopw [7] (fun i wr => ∃ k : Nat, k ≤ la ∧ i = .int .i64 k ∧ wr.rowIs w.heap.size 5 (la + lb) (lay (ya ++ yb) k) ∧ Below w.heap.size w wr) (fun i _ => la - (intOf i).toNat)
  case atStart => exact ⟨0, Nat.zero_le _, rfl, lay_start w _ _, (Below.refl _ _).alloc (Nat.le_refl _) _⟩
  case round =>
    obtain ⟨k, hk, rfl, hrow, hbel⟩ := hrel
    by_cases hlt : k < la
    · obtain ⟨xb, xo, rfl, hxb, hlc, hcm, hcell⟩ := ha.2 (by omega)
      unfold maxLen at hcm
      have h1 : wr.cell? ⟨xb, xo + k, none⟩ = some (.int .u8 (ya.getD k 0)) := (hbel.cell (p := ⟨xb, xo + k, none⟩) hxb).trans (hcell k hlt)
      have h2 := hrow.cell (i := k) (by omega)
      have h3 := hrow.frozen k
      have H4 := HYA.out k hlt
      generalize ya.getD k 0 = x at h1 H4
      have H4' : Hid ((ya ++ yb).getD k 0 = x) := H4
      clear H4 hcell
      go_wp2
      go_roundw
      case rel => exact ⟨k + 1, by omega, by go_num, lay_step hrow H4'.out, hbel.setCell (Nat.le_refl _) _⟩
      case measure => simp [intOf]; omega
    · have hkl : la = k := by omega
      subst hkl
      clear hlt hk
      go_wp2
      go_loopw [8] (fun i wr => ∃ k : Nat, k ≤ lb ∧ i = .int .i64 k ∧ wr.rowIs w.heap.size 5 (la + lb) (lay (ya ++ yb) (la + k)) ∧ Below w.heap.size w wr) (fun i _ => lb - (intOf i).toNat)
      case atStart => exact ⟨0, Nat.zero_le _, rfl, hrow, hbel⟩
      case round =>
        clear hrow hbel
        obtain ⟨k, hk, rfl, hrow, hbel⟩ := hrel
        by_cases hlt : k < lb
        · obtain ⟨xb, xo, rfl, hxb, hlc, hcm, hcell⟩ := hb.2 (by omega)
          unfold maxLen at hcm
          have h1 : wr.cell? ⟨xb, xo + k, none⟩ = some (.int .u8 (yb.getD k 0)) := (hbel.cell (p := ⟨xb, xo + k, none⟩) hxb).trans (hcell k hlt)
          have h2 := hrow.cell (i := la + k) (by omega)
          have h3 := hrow.frozen (la + k)
          have H4 := HYB.out k hlt
          generalize yb.getD k 0 = x at h1 H4
          have H4' : Hid ((ya ++ yb).getD (la + k) 0 = x) := H4
          clear H4 hcell
          go_wp2
          go_roundw
          case rel => exact ⟨k + 1, by omega, by go_num, lay_step hrow H4'.out, hbel.setCell (Nat.le_refl _) _⟩
          case measure => simp [intOf]; omega
        · have hkl : lb = k := by omega
          subst hkl
          clear hlt hk hmk
          have hsrc := lay_src hrow HYL.out h
          have hal := ha.carry hbel (Nat.le_refl _)
          have hbl := hb.carry hbel (Nat.le_refl _)
          have hsz : w.heap.size < wr.heap.size := hrow.lt
          clear hrow
          go_wp2_with fail
          refine (write_any (Inv.made wr) (hal.carry (((Below.refl _ wr).alloc (Nat.le_refl _) _).mono (by omega)) (by omega)) (by omega) (by simp; omega)).mono ?_
          rintro e w2 ⟨rfl, v2, ps2, hi2, hw2, hb2⟩
          have hB2 : Below wr.heap.size wr w2 := ((Below.refl _ wr).alloc (Nat.le_refl _) _).trans hb2
          have hl2 : ps2.length ≤ la := by have := hw2.len; rw [ha.1] at this; simpa using this
          have hf2 : flat ps2 = ya := by have := hw2.flat; simpa [flat] using this
          have hg2 : Good ps2 := hw2.good (fun i p hp => by simp at hp)
          clear hw2 hb2
          go_wp2_with fail
          refine (write_any hi2 (hbl.carry (hB2.mono (by omega)) (by omega)) (by omega) (by omega)).mono ?_
          rintro e w3 ⟨rfl, v3, ps, hi3, hw3, hb3⟩
          have hB3 : Below wr.heap.size wr w3 := hB2.trans hb3
          have hl3 : ps.length ≤ la + lb := by have := hw3.len; rw [hb.1] at this; omega
          have HF3 : Hid (flat ps = ya ++ yb) := by show _ = _; rw [hw3.flat, hf2]
          have HG : Hid (Good ps) := hw3.good hg2
          have HFT : Hid (∀ p ∈ ps, p.l.length ≤ p.c) := fun p hp => (hi3.pc p hp).fits
          clear hi2 hw3 hb3 hf2 hg2
          obtain ⟨ao3, cp3, rfl, hr3⟩ := hi3.reads
          have hB5 : Below (w.heap.size + 1) wr w3 := hB3.mono (by omega)
          have hsrc4 : Src w3 (w.heap.size + 1) (some ⟨w.heap.size, 0, none⟩) (la + lb) (la + lb) (ya ++ yb) := hsrc.carry hB5 (Nat.le_refl _)
          have hend : Below w.heap.size w w3 := hbel.trans (hB5.mono (by omega))
          have HL : Hid ((flat ps).length = la + lb) := by show _ = _; rw [HF3.out]; exact HYL.out
          clear hal hbl hsrc hB2 hB3 hB5 hsz hbel ha hb HYL HYA HYB
          go_wp2_with fail
          refine (heldN ((la : Int) + (lb : Int)) hi3 (by omega)).mono ?_
          rintro e w' ⟨rfl, rfl⟩
          go_wp2_with fail
          refine (piecesOf hi3).mono ?_
          rintro e w' ⟨rfl, rfl⟩
          go_wp2_with fail
          go_loop [15, 16, 17] (fun rr cc ii => ∃ i R C : Nat, i ≤ ps.length ∧ R ≤ 1048576 ∧ 512 ≤ C ∧ C ≤ 1048576 ∧ rr = .int .i64 R ∧ cc = .int .i64 C ∧ ii = .int .i64 i ∧ Hid (C = capOf i ∧ R + (flat (ps.take i)).length = la + lb)) (fun rr _ _ => (intOf rr).toNat)
          case atStart => exact ⟨0, la + lb, 512, Nat.zero_le _, h, by omega, by omega, by go_num, rfl, rfl, ⟨rfl, by simp [flat]⟩⟩
          case round =>
            obtain ⟨i, R, C, hi, hR, hC1, hC2, rfl, rfl, rfl, HR⟩ := hrel
            by_cases hpos : 0 < R
            · obtain ⟨p, hlt, hp, hc, hbig, hsmall⟩ := dbl_round HG.out HFT.out HL.out HR.out.2 hi hpos
              obtain ⟨g3, rfl, hcell, -⟩ := hr3 i p hp
              rw [← HR.out.1] at hc hbig hsmall
              rw [hc] at hcell
              have HS : Hid ((flat (ps.take (i + 1))).length = (flat (ps.take i)).length + p.l.length) := by show _ = _; rw [flat_take_succ hp, List.length_append]
              have HC' : Hid (capOf (i + 1) = min (2 * C) 1048576) := by show _ = _; rw [HR.out.1]; rfl
              clear hp hc
              by_cases hb1 : C < R
              · have hpl := hbig hb1
                rw [hpl] at hcell
                have HPL : Hid (p.l.length = C) := hpl
                clear hpl hbig hsmall
                by_cases hcap : 2 * C ≤ 1048576
                all_goals
                  go_wp2
                  go_round
                  case rel => exact ⟨i + 1, R - C, min (2 * C) 1048576, by omega, by omega, by omega, by omega, by go_num, by go_num, by go_num, ⟨HC'.out.symm, by have h1 := HS.out; have h2 := HR.out.2; have h3 := HPL.out; omega⟩⟩
                  case measure => simp [intOf]; omega
              · have hpl := hsmall (by omega)
                rw [hpl] at hcell
                have HPL : Hid (p.l.length = R) := hpl
                clear hpl hbig hsmall
                by_cases hcap : 2 * C ≤ 1048576
                all_goals
                  go_wp2
                  go_round
                  case rel => exact ⟨i + 1, 0, min (2 * C) 1048576, by omega, by omega, by omega, by omega, by go_num, by go_num, by go_num, ⟨HC'.out.symm, by have h1 := HS.out; have h2 := HR.out.2; have h3 := HPL.out; omega⟩⟩
                  case measure => simp [intOf]; omega
            · have hR0 : R = 0 := by omega
              subst hR0
              have hil : i = ps.length := dbl_end HG.out HL.out (by have := HR.out.2; omega) hi
              subst hil
              go_wp2_with fail
              refine (held_any (w.heap.size + 1) hr3 hsrc4 HF3.out (by omega) (by omega)).mono ?_
              rintro e w' ⟨rfl, n5, rfl⟩
              go_wp2
              go_ret
              exact ⟨rfl, Below.drewN hend _⟩
end Go.Proofs.Qxb6630073a
