import Derived.Test.Qxb6630207aValid
namespace Go.Proofs.Qxb6630207a
open Go.RowKit
set_option linter.unusedVariables false
set_option linter.unusedSimpArgs false

theorem zz5 (s : ByteArray) (w : World) (hs : s.size ≤ 9223372036854775807) :
    Calls Try.prog 5 #[.string s] w fun e w' => e = .returned (.bool (decide (s.size ≤ 1048576))) ∧ w = w' := by
  by_cases h : s.size ≤ 1048576
  · have HV : Hid (decide (s.size ≤ 1048576) = true) := decide_eq_true h
    go_enter Try.func5, Try.ntmps5
    go_wp2
    go_ret
    exact ⟨by rw [HV.out]; rfl, rfl⟩
  · have HV : Hid (decide (s.size ≤ 1048576) = false) := decide_eq_false h
    go_enter Try.func5, Try.ntmps5
    go_wp2
    go_ret
    exact ⟨by rw [HV.out]; rfl, rfl⟩

set_option maxHeartbeats 1000000 in
theorem alphabet_any (s : ByteArray) (w : World) (hs : s.size ≤ 9223372036854775807) :
    Calls Try.prog 3 #[.string s] w fun e w' => e = .returned (.bool true) ∧ w = w' := by
  by_cases h : s.size ≤ 1048576
  · go_enter Try.func3, Try.ntmps3
    go_wp2_with fail
    refine (zz5 s w hs).mono ?_
    rintro e w' ⟨rfl, rfl⟩
    rw [decide_eq_true h]
    go_wp2_with fail
    refine (model6 s w h).mono ?_
    rintro e w' ⟨rfl, rfl⟩
    go_wp2_with fail
    refine (valid7 s w hs).mono ?_
    rintro e w' ⟨rfl, rfl⟩
    generalize valid s = v
    go_wp2
    go_ret
    exact ⟨by simp, rfl⟩
  · go_enter Try.func3, Try.ntmps3
    go_wp2_with fail
    refine (zz5 s w hs).mono ?_
    rintro e w' ⟨rfl, rfl⟩
    rw [decide_eq_false h]
    go_wp2
    go_ret
    exact ⟨rfl, rfl⟩
end Go.Proofs.Qxb6630207a
