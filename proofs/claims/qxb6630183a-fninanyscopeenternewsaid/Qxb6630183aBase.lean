import Derived.Test.Qxb6630183aRows
import Derived.WalkKit
import Derived.LoopTactic
import Derived.Deep.QuietTactic
import Derived.BigQuiet
import Derived.RegionTactic
import Derived.Outline
namespace Go.Proofs.Qxb6630183a
open Go.RowKit
set_option linter.unusedVariables false
set_option linter.unusedSimpArgs false

/-- The entries of a slice that is read. -/
def Ents (w : World) (B : Nat) (a : Option Addr) (len cap : Nat) (es : List (ByteArray × Bool)) : Prop :=
  es.length = len ∧ (0 < len → ∃ xb xo, a = some ⟨xb, xo, none⟩ ∧ xb < B ∧ len ≤ cap ∧ cap ≤ maxLen ∧
    ∀ j x, es[j]? = some x → w.cell? ⟨xb, xo + j * 2, none⟩ = some (.string x.1) ∧ w.cell? ⟨xb, xo + j * 2 + 1, none⟩ = some (.bool x.2) ∧ x.1.size ≤ maxLen)

theorem Ents.carry {w w' : World} {B B' len cap : Nat} {a : Option Addr} {es : List (ByteArray × Bool)} (h : Ents w B a len cap es) (hb : Below B w w') (hB : B ≤ B') : Ents w' B' a len cap es := by
  refine ⟨h.1, fun h0 => ?_⟩
  obtain ⟨xb, xo, e, hx, h1, h2, h3⟩ := h.2 h0
  refine ⟨xb, xo, e, by omega, h1, h2, fun j x hj => ?_⟩
  obtain ⟨k1, k2, k3⟩ := h3 j x hj
  exact ⟨(hb.cell (p := ⟨xb, xo + j * 2, none⟩) hx).trans k1, (hb.cell (p := ⟨xb, xo + j * 2 + 1, none⟩) hx).trans k2, k3⟩

/-- The k-th entry, as the walk wants it. -/
theorem Ents.at {w : World} {B len cap k : Nat} {a : Option Addr} {es : List (ByteArray × Bool)} (h : Ents w B a len cap es) (hk : k < len) :
    ∃ xb xo s l, a = some ⟨xb, xo, none⟩ ∧ es[k]? = some (s, l) ∧ w.cell? ⟨xb, xo + k * 2, none⟩ = some (.string s) ∧ w.cell? ⟨xb, xo + k * 2 + 1, none⟩ = some (.bool l) ∧ s.size ≤ maxLen ∧ len ≤ cap ∧ cap ≤ maxLen := by
  obtain ⟨xb, xo, rfl, hx, h1, h2, h3⟩ := h.2 (by omega)
  have hk' : k < es.length := by rw [h.1]; exact hk
  obtain ⟨k1, k2, k3⟩ := h3 k es[k] (List.getElem?_eq_getElem hk')
  exact ⟨xb, xo, es[k].1, es[k].2, rfl, List.getElem?_eq_getElem hk', k1, k2, k3, h1, h2⟩

/-- It returns some bool; some int. -/
def RetB (e : Ending) : Prop := ∃ z : Bool, e = .returned (.bool z)
def RetI (e : Ending) : Prop := ∃ z : Int, e = .returned (.int .i64 z)

set_option maxHeartbeats 1000000 in
theorem bytes6 {w : World} {B len cap : Nat} {a : Option Addr} {es : List (ByteArray × Bool)} (h : Ents w B a len cap es) (hl : len ≤ 9223372036854775807) :
    Calls Try.prog 6 #[.slice a len cap] w fun e w' => RetI e ∧ w = w' := by
  go_enter Try.func6, Try.ntmps6
  go_wp2
  go_loop [3, 4] (fun n i => ∃ (z : Int) (k : Nat), k ≤ len ∧ n = .int .i64 z ∧ i = .int .i64 k) (fun _ i => len - (intOf i).toNat)
  case atStart => exact ⟨0, 0, Nat.zero_le _, rfl, rfl⟩
  case round =>
    obtain ⟨z, k, hk, rfl, rfl⟩ := hrel
    by_cases hlt : k < len
    · obtain ⟨xb, xo, s, l, rfl, -, h1, h2, h3, h4, h5⟩ := h.at hlt
      unfold maxLen at h3 h5
      go_wp2
      · go_ret
        exact ⟨⟨_, rfl⟩, rfl⟩
      · go_round
        case rel => exact ⟨_, k + 1, by omega, rfl, by go_num⟩
        case measure => simp [intOf]; omega
    · go_wp2
      go_ret
      exact ⟨⟨_, rfl⟩, rfl⟩

set_option maxHeartbeats 1000000 in
theorem bytes5 {w : World} {B len cap : Nat} {a : Option Addr} {es : List (ByteArray × Bool)} (h : Ents w B a len cap es) (hl : len ≤ 9223372036854775807) :
    Calls Try.prog 5 #[.slice a len cap] w fun e w' => RetB e ∧ w = w' := by
  by_cases hbig : len ≤ 1048576
  · go_enter Try.func5, Try.ntmps5
    go_wp2
    go_loop [3, 4] (fun n i => ∃ (z : Int) (k : Nat), k ≤ len ∧ n = .int .i64 z ∧ i = .int .i64 k) (fun _ i => len - (intOf i).toNat)
    case atStart => exact ⟨_, 0, Nat.zero_le _, rfl, rfl⟩
    case round =>
      obtain ⟨z, k, hk, rfl, rfl⟩ := hrel
      by_cases hlt : k < len
      · obtain ⟨xb, xo, s, l, rfl, -, h1, h2, h3, h4, h5⟩ := h.at hlt
        unfold maxLen at h3 h5
        go_wp2
        · go_ret
          exact ⟨⟨_, rfl⟩, rfl⟩
        · go_ret
          exact ⟨⟨_, rfl⟩, rfl⟩
        · go_round
          case rel => exact ⟨_, k + 1, by omega, rfl, by go_num⟩
          case measure => simp [intOf]; omega
      · go_wp2
        go_ret
        exact ⟨⟨_, rfl⟩, rfl⟩
  · go_enter Try.func5, Try.ntmps5
    go_wp2
    go_ret
    exact ⟨⟨_, rfl⟩, rfl⟩

set_option maxHeartbeats 1000000 in
theorem bytes9 {w : World} {B len cap : Nat} {a : Option Addr} {es : List (ByteArray × Bool)} (p : Int) (id : ByteArray) (left : Bool) (h : Ents w B a len cap es) (hl : len ≤ 9223372036854775807) (hid : id.size ≤ 9223372036854775807) :
    Calls Try.prog 9 #[.slice a len cap, .int .i64 p, .string id, .bool left] w fun e w' => RetB e ∧ w = w' := by
  by_cases hbig : len ≤ 1048576
  · go_enter Try.func9, Try.ntmps9
    go_wp2
    go_loop [9, 10] (fun n i => ∃ (z : Int) (k : Nat), k ≤ len ∧ n = .int .i64 z ∧ i = .int .i64 k) (fun _ i => len - (intOf i).toNat)
    case atStart => exact ⟨_, 0, Nat.zero_le _, rfl, rfl⟩
    case round =>
      obtain ⟨z, k, hk, rfl, rfl⟩ := hrel
      by_cases hlt : k < len
      · obtain ⟨xb, xo, s, l, rfl, -, h1, h2, h3, h4, h5⟩ := h.at hlt
        unfold maxLen at h3 h5
        go_wp2
        · go_ret
          exact ⟨⟨_, rfl⟩, rfl⟩
        · go_ret
          exact ⟨⟨_, rfl⟩, rfl⟩
        · go_round
          case rel => exact ⟨_, k + 1, by omega, rfl, by go_num⟩
          case measure => simp [intOf]; omega
      · go_wp2
        all_goals go_ret
        all_goals exact ⟨⟨_, rfl⟩, rfl⟩
  · go_enter Try.func9, Try.ntmps9
    go_wp2
    go_ret
    exact ⟨⟨_, rfl⟩, rfl⟩
end Go.Proofs.Qxb6630183a
