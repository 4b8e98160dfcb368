import Derived.Test.Qxb6630073aRows
import Derived.WalkKit
import Derived.BigRegion
import Derived.Deep.QuietTactic
import Derived.BigQuiet
import Derived.RegionTactic
import Derived.ChangeAlike
namespace Go.Proofs.Qxb6630073a
open Go.RowKit
set_option linter.unusedVariables false
set_option linter.unusedSimpArgs false

set_option maxHeartbeats 1000000 in
theorem took_any (P g m cap b l c n N : Nat) (w : World)
    (hP0 : w.cell? ⟨P, 0, none⟩ = some (.slice (some ⟨g, 0, none⟩) (m + 1) cap))
    (hP1 : w.cell? ⟨P, 1, none⟩ = some (.int .i64 N)) (f1 : w.frozen? ⟨P, 1, none⟩ = false)
    (hg : w.cell? ⟨g, m, none⟩ = some (.slice (some ⟨b, 0, none⟩) l c)) (fg : w.frozen? ⟨g, m, none⟩ = false)
    (hne : ¬ g = P) (hm : m ≤ 4000000) (hl : l + n ≤ c) (hc : c ≤ 4000000) (hN : N ≤ 4000000) :
    Calls Try.prog 13 #[.pointer (some ⟨P, 0, none⟩), .int .i64 n] w fun e w' => e = .returned (.tuple #[]) ∧
      w' = ((w.setCell ⟨g, m, none⟩ (.slice (some ⟨b, 0, none⟩) (l + n) c)).setCell ⟨P, 1, none⟩ (.int .i64 (N + n))).drew := by
  go_enter Try.func13, Try.ntmps13
  go_wp2
  go_region
  all_goals (go_wp2; go_end0; exact ⟨rfl, rfl⟩)
end Go.Proofs.Qxb6630073a
