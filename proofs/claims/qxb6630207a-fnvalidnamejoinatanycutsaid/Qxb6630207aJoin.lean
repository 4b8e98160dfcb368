import Derived.Test.Qxb6630207aLaws
import Derived.Deep.RegionWith
namespace Go.Proofs.Qxb6630207a
open Go.RowKit
set_option linter.unusedVariables false
set_option linter.unusedSimpArgs false

theorem zz8_true (a b : ByteArray) (w : World) (h : a.size + b.size ≤ 1048576) :
    Calls Try.prog 8 #[.string a, .string b] w fun e w' => e = .returned (.bool true) ∧ w = w' := by
  go_enter Try.func8, Try.ntmps8
  go_wp2
  go_ret
  exact ⟨rfl, rfl⟩
theorem zz8_false (a b : ByteArray) (w : World) (h : 1048576 < a.size + b.size) (ha : a.size ≤ 9223372036854775807) (hb : b.size ≤ 9223372036854775807) :
    Calls Try.prog 8 #[.string a, .string b] w fun e w' => e = .returned (.bool false) ∧ w = w' := by
  by_cases h1 : a.size ≤ 1048576
  · by_cases h2 : b.size ≤ 1048576
    all_goals
      go_enter Try.func8, Try.ntmps8
      go_wp2
      go_ret
      exact ⟨rfl, rfl⟩
  · go_enter Try.func8, Try.ntmps8
    go_wp2
    go_ret
    exact ⟨rfl, rfl⟩

theorem okAll_append (a b : ByteArray) : okAll (a ++ b) = (okAll a && okAll b) := by
  unfold okAll
  rw [ByteArray.data_append, Array.toList_append, List.all_append]
theorem valid_sizes {a : ByteArray} (h : valid a = true) : 1 ≤ a.size ∧ a.size ≤ 128 ∧ okAll a = true := by
  simpa [valid, and_assoc] using h
theorem okAll_empty {a : ByteArray} (h : a.size = 0) : okAll a = true := okAll_true (fun j hj => by omega)
theorem valid_empty {a : ByteArray} (h : a.size = 0) : valid a = false := by simp [valid, h]
theorem valid_small {a : ByteArray} (h1 : 1 ≤ a.size) (h2 : a.size ≤ 128) : valid a = okAll a := by simp [valid, h1, h2]
theorem isEmpty_iff (a : ByteArray) : a.toList.isEmpty = decide (a.size = 0) := by
  rw [ByteArray.toList_eq]
  have : a.data.toList.length = a.size := by simp
  cases h : a.data.toList with
  | nil => rw [h] at this; simp only [List.length_nil] at this; simp [← this]
  | cons x r =>
    rw [h] at this
    simp only [List.length_cons] at this
    rw [List.isEmpty_cons]
    exact (decide_eq_false (by omega)).symm

/-- What the joined text is, out of its parts. -/
theorem valid_join (a b : ByteArray) : valid (a ++ b) = (decide (1 ≤ a.size + b.size) && decide (a.size + b.size ≤ 128) && ((decide (a.size = 0) || valid a) && (decide (b.size = 0) || valid b))) := by
  by_cases h1 : 1 ≤ a.size + b.size
  · by_cases h2 : a.size + b.size ≤ 128
    · have e1 : (decide (a.size = 0) || valid a) = okAll a := by
        by_cases h : a.size = 0
        · simp [h, okAll_empty h]
        · simp [h, valid_small (a := a) (by omega) (by omega)]
      have e2 : (decide (b.size = 0) || valid b) = okAll b := by
        by_cases h : b.size = 0
        · simp [h, okAll_empty h]
        · simp [h, valid_small (a := b) (by omega) (by omega)]
      rw [e1, e2, ← okAll_append]
      simp [valid, h1, h2]
    · simp [valid, h2]
  · have h3 : a.size = 0 := by omega
    have h4 : b.size = 0 := by omega
    simp [valid, h3, h4]

set_option maxHeartbeats 8000000 in
theorem join_in (a b : ByteArray) (w : World) (ha : a.size ≤ 524288) (hb : b.size ≤ 524288) :
    Calls Try.prog 4 #[.string a, .string b] w fun e w' => e = .returned (.bool true) ∧ w = w' := by
  obtain ⟨va, HA⟩ : ∃ v, Hid (valid a = v) := ⟨valid a, rfl⟩
  obtain ⟨vb, HB⟩ : ∃ v, Hid (valid b = v) := ⟨valid b, rfl⟩
  obtain ⟨vj, HJ⟩ : ∃ v, Hid (valid (a ++ b) = v) := ⟨valid (a ++ b), rfl⟩
  have HJ2 : Hid (vj = (decide (1 ≤ a.size + b.size) && decide (a.size + b.size ≤ 128) && ((decide (a.size = 0) || va) && (decide (b.size = 0) || vb)))) := by
    show _ = _
    rw [← HJ.out, valid_join, HA.out, HB.out]
  have fa : va = true → 1 ≤ a.size ∧ a.size ≤ 128 := fun h => by have := valid_sizes (a := a) (HA.out.trans h); omega
  have fb : vb = true → 1 ≤ b.size ∧ b.size ≤ 128 := fun h => by have := valid_sizes (a := b) (HB.out.trans h); omega
  have ea := isEmpty_iff a
  have eb := isEmpty_iff b
  by_cases za : a.size = 0
  all_goals by_cases zb : b.size = 0
  all_goals by_cases n2 : a.size + b.size ≤ 128
  all_goals cases va
  all_goals cases vb
  all_goals first | (exfalso; have := fa rfl; omega) | (exfalso; have := fb rfl; omega) | (exfalso; omega) | skip
  all_goals
    have hj := HJ2.out
    clear HJ2 fa fb
    first | rw [decide_eq_true za] at ea hj | rw [decide_eq_false za] at ea hj
    first | rw [decide_eq_true zb] at eb hj | rw [decide_eq_false zb] at eb hj
    first | rw [decide_eq_true n2] at hj | rw [decide_eq_false n2] at hj
    first | rw [decide_eq_true (show 1 ≤ a.size + b.size by omega)] at hj | rw [decide_eq_false (show ¬ 1 ≤ a.size + b.size by omega)] at hj
    simp only [Bool.and_true, Bool.and_false, Bool.true_and, Bool.false_and, Bool.or_true, Bool.or_false, Bool.true_or, Bool.false_or] at hj
    subst hj
    go_enter Try.func4, Try.ntmps4
    go_wp2_with (first | (go_at_call 8; refine (zz8_true a b w (by omega)).mono ?_; rintro e w' ⟨rfl, rfl⟩) | (go_at_call_of 7 (Value.string (a ++ b)); refine (valid7 (a ++ b) w (by rw [ByteArray.size_append]; omega)).mono ?_; rintro e w' ⟨rfl, rfl⟩; rw [HJ.out]) | (go_at_call_of 7 (Value.string a); refine (valid7 a w (by omega)).mono ?_; rintro e w' ⟨rfl, rfl⟩; rw [HA.out]) | (go_at_call_of 7 (Value.string b); refine (valid7 b w (by omega)).mono ?_; rintro e w' ⟨rfl, rfl⟩; rw [HB.out]) | (go_at_call 6; refine (model6 a w (by omega)).mono ?_; rintro e w' ⟨rfl, rfl⟩; rw [HA.out]))
    go_ret
    exact ⟨rfl, rfl⟩
end Go.Proofs.Qxb6630207a
