import Derived.Test.Qxb6630207aJoin
namespace Go.Proofs.Qxb6630207a
open Go.RowKit
set_option linter.unusedVariables false
set_option linter.unusedSimpArgs false

set_option maxHeartbeats 1000000 in
theorem join_long (a b : ByteArray) (w : World) (h : 1048576 < a.size + b.size) (ha : a.size ≤ 9223372036854775807) (hb : b.size ≤ 9223372036854775807) :
    Calls Try.prog 4 #[.string a, .string b] w fun e w' => e = .returned (.bool true) ∧ w = w' := by
  go_enter Try.func4, Try.ntmps4
  go_wp2_with fail
  refine (zz8_false a b w h ha hb).mono ?_
  rintro e w' ⟨rfl, rfl⟩
  go_wp2
  go_ret
  exact ⟨rfl, rfl⟩

set_option maxHeartbeats 1000000 in
theorem join_out (a b : ByteArray) (w : World) (h : a.size + b.size ≤ 1048576) (hx : 524288 < a.size ∨ 524288 < b.size) :
    Calls Try.prog 4 #[.string a, .string b] w fun e w' => e = .returned (.bool true) ∧ w = w' := by
  by_cases h1 : 524288 < a.size
  · clear hx
    go_enter Try.func4, Try.ntmps4
    go_wp2_with fail
    refine (zz8_true a b w h).mono ?_
    rintro e w' ⟨rfl, rfl⟩
    go_wp2
    go_ret
    exact ⟨rfl, rfl⟩
  · have h2 : 524288 < b.size := by omega
    clear hx
    go_enter Try.func4, Try.ntmps4
    go_wp2_with fail
    refine (zz8_true a b w h).mono ?_
    rintro e w' ⟨rfl, rfl⟩
    go_wp2
    go_ret
    exact ⟨rfl, rfl⟩

theorem join_any (a b : ByteArray) (w : World) (ha : a.size ≤ 9223372036854775807) (hb : b.size ≤ 9223372036854775807) :
    Calls Try.prog 4 #[.string a, .string b] w fun e w' => e = .returned (.bool true) ∧ w = w' := by
  by_cases h : a.size + b.size ≤ 1048576
  · by_cases hx : 524288 < a.size ∨ 524288 < b.size
    · exact join_out a b w h hx
    · exact join_in a b w (by omega) (by omega)
  · exact join_long a b w (by omega) ha hb
end Go.Proofs.Qxb6630207a
