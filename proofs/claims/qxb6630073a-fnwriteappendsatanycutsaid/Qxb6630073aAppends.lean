import Derived.Test.Qxb6630073aShared
namespace Go.Proofs.Qxb6630073a
open Go.RowKit
set_option linter.unusedVariables false
set_option linter.unusedSimpArgs false

set_option maxHeartbeats 1000000 in
theorem app_long (a b : Option Addr) (la ca lb cb : Nat) (g : Int) (w : World) (h : 1048576 < la + lb) (ha : la ≤ 9223372036854775807) (hb : lb ≤ 9223372036854775807) :
    Calls Try.prog 3 #[.slice a la ca, .slice b lb cb, .int .i64 g] w fun e w' => e = .returned (.bool true) ∧ Below w.heap.size w w' := by
  go_enter Try.func3, Try.ntmps3
  go_wp2_with (go_at_call 5; refine (zz5_false a b la ca lb cb g w h ha hb).mono ?_; rintro e w' ⟨rfl, rfl⟩)
  go_ret
  exact ⟨rfl, Below.refl _ _⟩

set_option maxHeartbeats 1000000 in
theorem app_out (a b : Option Addr) (la ca lb cb : Nat) (g : Int) (w : World) (h : la + lb ≤ 1048576) (hg : g < 0 ∨ 65536 < g) :
    Calls Try.prog 3 #[.slice a la ca, .slice b lb cb, .int .i64 g] w fun e w' => e = .returned (.bool true) ∧ Below w.heap.size w w' := by
  rcases hg with hg | hg
  · go_enter Try.func3, Try.ntmps3
    go_wp2_with (go_at_call 5; refine (zz5_true a b la ca lb cb g w h).mono ?_; rintro e w' ⟨rfl, rfl⟩)
    go_ret
    exact ⟨rfl, Below.refl _ _⟩
  · have h0 : ¬ g < 0 := by omega
    go_enter Try.func3, Try.ntmps3
    go_wp2_with (go_at_call 5; refine (zz5_true a b la ca lb cb g w h).mono ?_; rintro e w' ⟨rfl, rfl⟩)
    go_ret
    exact ⟨rfl, Below.refl _ _⟩

set_option maxRecDepth 100000 in
set_option maxHeartbeats 4000000 in
theorem app_in (a b : Option Addr) (la ca lb cb g : Nat) (ya yb : List Int) (w : World) (h : la + lb ≤ 1048576) (hg : g ≤ 65536)
    (ha : Src w w.heap.size a la ca ya) (hb : Src w w.heap.size b lb cb yb) :
    Calls Try.prog 3 #[.slice a la ca, .slice b lb cb, .int .i64 g] w fun e w' => e = .returned (.bool true) ∧ Below w.heap.size w w' := by
  have hmk := make_full (la + lb) ((la : Int) + (lb : Int)) (by omega) h
  have HYL : Hid ((ya ++ yb).length = la + lb) := by show _ = _; rw [List.length_append, ha.1, hb.1]
  have HYA : Hid (∀ j, j < la → (ya ++ yb).getD j 0 = ya.getD j 0) := fun j hj => by simp [List.getD, List.getElem?_append_left, ha.1, hj]
  have HYB : Hid (∀ j, j < lb → (ya ++ yb).getD (la + j) 0 = yb.getD j 0) := fun j hj => by simp [List.getD, List.getElem?_append_right, ha.1]
  go_enter Try.func3, Try.ntmps3
  go_wp2_with (go_at_call 5; refine (zz5_true a b la ca lb cb g w h).mono ?_; rintro e w' ⟨rfl, rfl⟩)
  go_loopw [9] (fun i wr => ∃ k : Nat, k ≤ la ∧ i = .int .i64 k ∧ wr.rowIs w.heap.size 5 (la + lb) (lay (ya ++ yb) k) ∧ Below w.heap.size w wr) (fun i _ => la - (intOf i).toNat)
  case atStart => exact ⟨0, Nat.zero_le _, rfl, lay_start w _ _, (Below.refl _ _).alloc (Nat.le_refl _) _⟩
  case round =>
    obtain ⟨k, hk, rfl, hrow, hbel⟩ := hrel
    by_cases hlt : k < la
    · obtain ⟨xb, xo, rfl, hxb, hlc, hcm, hcell⟩ := ha.2 (by omega)
      unfold maxLen at hcm
      have h1 : wr.cell? ⟨xb, xo + k, none⟩ = some (.int .u8 (ya.getD k 0)) := (hbel.cell (p := ⟨xb, xo + k, none⟩) hxb).trans (hcell k hlt)
      have h2 := hrow.cell (i := k) (by omega)
      have h3 := hrow.frozen k
      have H4 := HYA.out k hlt
      generalize ya.getD k 0 = x at h1 H4
      have H4' : Hid ((ya ++ yb).getD k 0 = x) := H4
      clear H4 hcell
      go_wp2
      go_roundw
      case rel => exact ⟨k + 1, by omega, by go_num, lay_step hrow H4'.out, hbel.setCell (Nat.le_refl _) _⟩
      case measure => simp [intOf]; omega
    · have hkl : la = k := by omega
      subst hkl
      clear hlt hk
      go_wp2
      go_loopw [10] (fun i wr => ∃ k : Nat, k ≤ lb ∧ i = .int .i64 k ∧ wr.rowIs w.heap.size 5 (la + lb) (lay (ya ++ yb) (la + k)) ∧ Below w.heap.size w wr) (fun i _ => lb - (intOf i).toNat)
      case atStart => exact ⟨0, Nat.zero_le _, rfl, hrow, hbel⟩
      case round =>
        clear hrow hbel
        obtain ⟨k, hk, rfl, hrow, hbel⟩ := hrel
        by_cases hlt : k < lb
        · obtain ⟨xb, xo, rfl, hxb, hlc, hcm, hcell⟩ := hb.2 (by omega)
          unfold maxLen at hcm
          have h1 : wr.cell? ⟨xb, xo + k, none⟩ = some (.int .u8 (yb.getD k 0)) := (hbel.cell (p := ⟨xb, xo + k, none⟩) hxb).trans (hcell k hlt)
          have h2 := hrow.cell (i := la + k) (by omega)
          have h3 := hrow.frozen (la + k)
          have H4 := HYB.out k hlt
          generalize yb.getD k 0 = x at h1 H4
          have H4' : Hid ((ya ++ yb).getD (la + k) 0 = x) := H4
          clear H4 hcell
          go_wp2
          go_roundw
          case rel => exact ⟨k + 1, by omega, by go_num, lay_step hrow H4'.out, hbel.setCell (Nat.le_refl _) _⟩
          case measure => simp [intOf]; omega
        · have hkl : lb = k := by omega
          subst hkl
          clear hlt hk hmk
          have hsrc := lay_src hrow HYL.out h
          have hal := ha.carry hbel (Nat.le_refl _)
          have hbl := hb.carry hbel (Nat.le_refl _)
          have hsz : w.heap.size < wr.heap.size := hrow.lt
          clear hrow
          go_wp2_with fail
          refine (growInv_nil g (Inv.made wr) (by omega)).mono ?_
          rintro e w1 ⟨rfl, g1, cp1, hi1, hb1⟩
          have hB1 : Below wr.heap.size wr w1 := ((Below.refl _ wr).alloc (Nat.le_refl _) _).trans hb1
          clear hb1
          go_wp2_with fail
          refine (write_any hi1 (hal.carry (hB1.mono (by omega)) (by omega)) (by omega) (by simp; omega)).mono ?_
          rintro e w2 ⟨rfl, v2, ps2, hi2, hw2, hb2⟩
          have hB2 : Below wr.heap.size wr w2 := hB1.trans hb2
          have hl2 : ps2.length ≤ 1 + la := by have := hw2.len; rw [ha.1] at this; simpa using this
          have hf2 : flat ps2 = ya := by have := hw2.flat; simpa [flat] using this
          clear hi1 hw2 hb2
          go_wp2_with fail
          refine (write_any hi2 (hbl.carry (hB2.mono (by omega)) (by omega)) (by omega) (by omega)).mono ?_
          rintro e w3 ⟨rfl, v3, ps3, hi3, hw3, hb3⟩
          have hB3 : Below wr.heap.size wr w3 := hB2.trans hb3
          have hl3 : ps3.length ≤ 1 + la + lb := by have := hw3.len; rw [hb.1] at this; omega
          have hf3 : flat ps3 = ya ++ yb := by rw [hw3.flat, hf2]
          have HF3 : Hid (flat ps3 = ya ++ yb) := hf3
          clear hi2 hw3 hb3 hf2 hf3
          have hz3 := hB3.size
          go_wp2_with fail
          refine (write_any (Inv.made w3) (hsrc.carry ((hB3.alloc hz3 _).mono (by omega)) (by omega)) (by omega) (by simp; omega)).mono ?_
          rintro e w4 ⟨rfl, v4, ps4, hi4, hw4, hb4⟩
          have hB4 : Below w3.heap.size w3 w4 := ((Below.refl _ w3).alloc (Nat.le_refl _) _).trans hb4
          have hi3' := hi3.carry hB4 (Nat.le_refl _)
          have hl4 : ps4.length ≤ la + lb := by have := hw4.len; rw [HYL.out] at this; simpa using this
          have HF4 : Hid (flat ps4 = ya ++ yb) := by have := hw4.flat; show _ = _; simpa [flat] using this
          clear hi3 hw4 hb4
          obtain ⟨ao3, cp3, rfl, hr3⟩ := hi3'.reads
          obtain ⟨ao4, cp4, rfl, hr4⟩ := hi4.reads
          have hB5 : Below (w.heap.size + 1) wr w4 := (hB3.mono (by omega)).trans (hB4.mono (by omega))
          have hsrc4 : Src w4 (w.heap.size + 1) (some ⟨w.heap.size, 0, none⟩) (la + lb) (la + lb) (ya ++ yb) := hsrc.carry hB5 (Nat.le_refl _)
          have hend : Below w.heap.size w w4 := hbel.trans (hB5.mono (by omega))
          go_wp2_with fail
          refine (heldN ((la : Int) + (lb : Int)) hi3' (by omega)).mono ?_
          rintro e w' ⟨rfl, rfl⟩
          go_wp2_with fail
          refine (heldN ((la : Int) + (lb : Int)) hi4 (by omega)).mono ?_
          rintro e w' ⟨rfl, rfl⟩
          go_wp2_with fail
          refine (piecesOf hi3').mono ?_
          rintro e w' ⟨rfl, rfl⟩
          go_wp2_with fail
          refine (held_any (w.heap.size + 1) hr3 hsrc4 HF3.out (by omega) (by omega)).mono ?_
          rintro e w' ⟨rfl, n5, rfl⟩
          go_wp2_with fail
          refine (piecesOf (hi4.drewN n5)).mono ?_
          rintro e w' ⟨rfl, rfl⟩
          go_wp2_with fail
          refine (held_any (w := w4.drewN n5) (w.heap.size + 1) hr4 hsrc4 HF4.out (by omega) (by omega)).mono ?_
          rintro e w' ⟨rfl, n6, rfl⟩
          go_wp2
          go_ret
          exact ⟨rfl, Below.drewN hend _⟩
end Go.Proofs.Qxb6630073a
