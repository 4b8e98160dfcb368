import Derived.Test.Qxb6630207aNames
namespace Go.Proofs.Qxb6630207a
open Go.RowKit
set_option linter.unusedVariables false
set_option linter.unusedSimpArgs false

set_option maxRecDepth 100000 in
set_option maxHeartbeats 4000000 in
theorem valid7_in (s : ByteArray) (w : World) (h1 : 1 ≤ s.size) (h2 : s.size ≤ 128) :
    Calls Try.prog 7 #[.string s] w fun e w' => e = .returned (.bool (okAll s)) ∧ w = w' := by
  have h0 : ((s.size : Int) == 0) = false := by rw [beq_eq_false_iff_ne]; omega
  go_enter Try.func7, Try.ntmps7
  go_wp2
  go_loop [16] (fun i => ∃ k : Nat, k ≤ s.size ∧ i = .int .i64 k ∧ Hid (∀ (j : Nat) (hj : j < s.size), j < k → ok s[j] = true)) (fun i => s.size - (intOf i).toNat)
  case atStart => exact ⟨0, Nat.zero_le _, rfl, fun j _ hj => by omega⟩
  case round =>
    obtain ⟨k, hk, rfl, HN⟩ := hrel
    by_cases hlt : k < s.size
    · have hsp := ok_split s[k]
      have hb0 : 0 ≤ (s[k].toNat : Int) := by omega
      have hb1 : (s[k].toNat : Int) ≤ 255 := by have := s[k].toNat_lt; omega
      obtain ⟨b, HB⟩ : ∃ b, Hid (ok s[k] = b) := ⟨ok s[k], rfl⟩
      rw [HB.out] at hsp
      cases b
      · have hc : ((s[k].toNat : Int) < 45) ∨ (58 < (s[k].toNat : Int) ∧ (s[k].toNat : Int) < 65) ∨ (90 < (s[k].toNat : Int) ∧ (s[k].toNat : Int) < 95) ∨ (95 < (s[k].toNat : Int) ∧ (s[k].toNat : Int) < 97) ∨ (122 < (s[k].toNat : Int)) := by
          have := hsp.symm
          rw [decide_eq_false_iff_not] at this
          omega
        clear hsp
        have HF : Hid (okAll s = false) := okAll_false hlt HB.out
        rcases hc with hc | hc | hc | hc | hc
        all_goals
          first | have d0 : decide (97 ≤ (s[k].toNat : Int)) = true := decide_eq_true (by omega) | have d0 : decide (97 ≤ (s[k].toNat : Int)) = false := decide_eq_false (by omega)
          first | have d1 : decide ((s[k].toNat : Int) ≤ 122) = true := decide_eq_true (by omega) | have d1 : decide ((s[k].toNat : Int) ≤ 122) = false := decide_eq_false (by omega)
          first | have d2 : decide (65 ≤ (s[k].toNat : Int)) = true := decide_eq_true (by omega) | have d2 : decide (65 ≤ (s[k].toNat : Int)) = false := decide_eq_false (by omega)
          first | have d3 : decide ((s[k].toNat : Int) ≤ 90) = true := decide_eq_true (by omega) | have d3 : decide ((s[k].toNat : Int) ≤ 90) = false := decide_eq_false (by omega)
          first | have d4 : decide (48 ≤ (s[k].toNat : Int)) = true := decide_eq_true (by omega) | have d4 : decide (48 ≤ (s[k].toNat : Int)) = false := decide_eq_false (by omega)
          first | have d5 : decide ((s[k].toNat : Int) ≤ 57) = true := decide_eq_true (by omega) | have d5 : decide ((s[k].toNat : Int) ≤ 57) = false := decide_eq_false (by omega)
          first | have b0 : ((s[k].toNat : Int) != 46) = true := bne_iff_ne.2 (by omega) | have b0 : ((s[k].toNat : Int) != 46) = false := bne_eq_false_iff_eq.2 (by omega)
          first | have b1 : ((s[k].toNat : Int) != 47) = true := bne_iff_ne.2 (by omega) | have b1 : ((s[k].toNat : Int) != 47) = false := bne_eq_false_iff_eq.2 (by omega)
          first | have b2 : ((s[k].toNat : Int) != 58) = true := bne_iff_ne.2 (by omega) | have b2 : ((s[k].toNat : Int) != 58) = false := bne_eq_false_iff_eq.2 (by omega)
          first | have b3 : ((s[k].toNat : Int) != 45) = true := bne_iff_ne.2 (by omega) | have b3 : ((s[k].toNat : Int) != 45) = false := bne_eq_false_iff_eq.2 (by omega)
          first | have b4 : ((s[k].toNat : Int) != 95) = true := bne_iff_ne.2 (by omega) | have b4 : ((s[k].toNat : Int) != 95) = false := bne_eq_false_iff_eq.2 (by omega)
          go_wp2
          go_ret
          exact ⟨by rw [HF.out]; rfl, rfl⟩
      · have hc : (97 ≤ (s[k].toNat : Int) ∧ (s[k].toNat : Int) ≤ 122) ∨ (65 ≤ (s[k].toNat : Int) ∧ (s[k].toNat : Int) ≤ 90) ∨ (48 ≤ (s[k].toNat : Int) ∧ (s[k].toNat : Int) ≤ 57) ∨ (45 ≤ (s[k].toNat : Int) ∧ (s[k].toNat : Int) ≤ 45) ∨ (46 ≤ (s[k].toNat : Int) ∧ (s[k].toNat : Int) ≤ 46) ∨ (47 ≤ (s[k].toNat : Int) ∧ (s[k].toNat : Int) ≤ 47) ∨ (58 ≤ (s[k].toNat : Int) ∧ (s[k].toNat : Int) ≤ 58) ∨ (95 ≤ (s[k].toNat : Int) ∧ (s[k].toNat : Int) ≤ 95) := by
          have := of_decide_eq_true hsp.symm
          omega
        clear hsp
        have HR : Hid (∀ (j : Nat) (hj : j < s.size), j < k + 1 → ok s[j] = true) := fun j hj hjk => by
          by_cases e : j = k
          · subst e; exact HB.out
          · exact HN.out j hj (by omega)
        rcases hc with hc | hc | hc | hc | hc | hc | hc | hc
        all_goals
          first | have d0 : decide (97 ≤ (s[k].toNat : Int)) = true := decide_eq_true (by omega) | have d0 : decide (97 ≤ (s[k].toNat : Int)) = false := decide_eq_false (by omega)
          first | have d1 : decide ((s[k].toNat : Int) ≤ 122) = true := decide_eq_true (by omega) | have d1 : decide ((s[k].toNat : Int) ≤ 122) = false := decide_eq_false (by omega)
          first | have d2 : decide (65 ≤ (s[k].toNat : Int)) = true := decide_eq_true (by omega) | have d2 : decide (65 ≤ (s[k].toNat : Int)) = false := decide_eq_false (by omega)
          first | have d3 : decide ((s[k].toNat : Int) ≤ 90) = true := decide_eq_true (by omega) | have d3 : decide ((s[k].toNat : Int) ≤ 90) = false := decide_eq_false (by omega)
          first | have d4 : decide (48 ≤ (s[k].toNat : Int)) = true := decide_eq_true (by omega) | have d4 : decide (48 ≤ (s[k].toNat : Int)) = false := decide_eq_false (by omega)
          first | have d5 : decide ((s[k].toNat : Int) ≤ 57) = true := decide_eq_true (by omega) | have d5 : decide ((s[k].toNat : Int) ≤ 57) = false := decide_eq_false (by omega)
          first | have b0 : ((s[k].toNat : Int) != 46) = true := bne_iff_ne.2 (by omega) | have b0 : ((s[k].toNat : Int) != 46) = false := bne_eq_false_iff_eq.2 (by omega)
          first | have b1 : ((s[k].toNat : Int) != 47) = true := bne_iff_ne.2 (by omega) | have b1 : ((s[k].toNat : Int) != 47) = false := bne_eq_false_iff_eq.2 (by omega)
          first | have b2 : ((s[k].toNat : Int) != 58) = true := bne_iff_ne.2 (by omega) | have b2 : ((s[k].toNat : Int) != 58) = false := bne_eq_false_iff_eq.2 (by omega)
          first | have b3 : ((s[k].toNat : Int) != 45) = true := bne_iff_ne.2 (by omega) | have b3 : ((s[k].toNat : Int) != 45) = false := bne_eq_false_iff_eq.2 (by omega)
          first | have b4 : ((s[k].toNat : Int) != 95) = true := bne_iff_ne.2 (by omega) | have b4 : ((s[k].toNat : Int) != 95) = false := bne_eq_false_iff_eq.2 (by omega)
          go_wp2
          go_round
          case rel => exact ⟨k + 1, by omega, by go_num, HR⟩
          case measure => simp [intOf]; omega
    · have HF : Hid (okAll s = true) := okAll_true (fun j hj => HN.out j hj (by omega))
      go_wp2
      go_ret
      exact ⟨by rw [HF.out]; rfl, rfl⟩

set_option maxHeartbeats 1000000 in
theorem valid7 (s : ByteArray) (w : World) (hs : s.size ≤ 9223372036854775807) :
    Calls Try.prog 7 #[.string s] w fun e w' => e = .returned (.bool (valid s)) ∧ w = w' := by
  by_cases h1 : 1 ≤ s.size
  · by_cases h2 : s.size ≤ 128
    · refine (valid7_in s w h1 h2).mono ?_
      rintro e w' ⟨rfl, rfl⟩
      exact ⟨by simp [valid, h1, h2], rfl⟩
    · have HV : Hid (valid s = false) := by show _ = _; simp [valid, h2]
      have h0 : ((s.size : Int) == 0) = false := by rw [beq_eq_false_iff_ne]; omega
      go_enter Try.func7, Try.ntmps7
      go_wp2
      go_ret
      exact ⟨by rw [HV.out]; rfl, rfl⟩
  · have HV : Hid (valid s = false) := by show _ = _; simp [valid]; intro h; omega
    have h0 : ((s.size : Int) == 0) = true := by rw [beq_iff_eq]; omega
    go_enter Try.func7, Try.ntmps7
    go_wp2
    go_ret
    exact ⟨by rw [HV.out]; rfl, rfl⟩
end Go.Proofs.Qxb6630207a
