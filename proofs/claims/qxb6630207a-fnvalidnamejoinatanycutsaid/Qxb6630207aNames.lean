import Derived.Test.Qxb6630207aRows
import Derived.WalkKit
import Derived.LoopTactic
import Derived.Outline
namespace Go.Proofs.Qxb6630207a
open Go.RowKit
set_option linter.unusedVariables false
set_option linter.unusedSimpArgs false

/-- The bytes that a name may hold. -/
def ok (c : UInt8) : Bool := (97 ≤ c && c ≤ 122) || (65 ≤ c && c ≤ 90) || (48 ≤ c && c ≤ 57) || c == 46 || c == 47 || c == 58 || c == 45 || c == 95
/-- The alphabet, written out. -/
def alpha : List UInt8 := [97, 98, 99, 100, 101, 102, 103, 104, 105, 106, 107, 108, 109, 110, 111, 112, 113, 114, 115, 116, 117, 118, 119, 120, 121, 122, 65, 66, 67, 68, 69, 70, 71, 72, 73, 74, 75, 76, 77, 78, 79, 80, 81, 82, 83, 84, 85, 86, 87, 88, 89, 90, 48, 49, 50, 51, 52, 53, 54, 55, 56, 57, 46, 47, 58, 45, 95]

theorem no_alpha {c : Int} {k : Nat} (h : ∀ (j : Nat) (x : UInt8), j < k → alpha[j]? = some x → ¬ (x.toNat : Int) = c) (hk : 67 ≤ k) : (alpha.any fun x => (x.toNat : Int) == c) = false := by
  rw [List.any_eq_false]
  intro x hx
  obtain ⟨j, hj⟩ := List.getElem?_of_mem hx
  have hjl : j < 67 := (List.getElem?_eq_some_iff.1 hj).1
  simpa using h j x (by omega) hj

theorem yes_alpha {c : Int} {k : Nat} (hk : k < alpha.length) (h : ((alpha[k]'hk).toNat : Int) = c) : (alpha.any fun x => (x.toNat : Int) == c) = true := by
  rw [List.any_eq_true]
  exact ⟨alpha[k], List.getElem_mem hk, by simp [h]⟩

set_option maxHeartbeats 1000000 in
theorem in10 (c : Int) (w : World) (h0 : 0 ≤ c) (h1 : c ≤ 255) :
    Calls Try.prog 10 #[.int .u8 c] w fun e w' => e = .returned (.bool (alpha.any fun x => (x.toNat : Int) == c)) ∧ w = w' := by
  go_enter Try.func10, Try.ntmps10
  go_wp2
  go_loop [3] (fun i => ∃ k : Nat, k ≤ 67 ∧ i = .int .i64 k ∧ Hid (∀ (j : Nat) (x : UInt8), j < k → alpha[j]? = some x → ¬ (x.toNat : Int) = c)) (fun i => 67 - (intOf i).toNat)
  case atStart => exact ⟨0, Nat.zero_le _, rfl, fun j x hj => by omega⟩
  case round =>
    obtain ⟨k, hk, rfl, HN⟩ := hrel
    by_cases hlt : k < 67
    · have hkl : k < alpha.length := hlt
      go_wp2
      · have he : ((alpha[k]'hkl).toNat : Int) = c := eq_of_beq ‹((_ : Int) == c) = true›
        go_ret
        exact ⟨by rw [yes_alpha hkl he]; rfl, rfl⟩
      · have he : ¬ ((alpha[k]'hkl).toNat : Int) = c := ne_of_beq_false ‹((_ : Int) == c) = false›
        go_round
        case rel =>
          refine ⟨k + 1, by omega, by go_num, ?_⟩
          intro j x hj hx
          by_cases e : j = k
          · subst e
            rw [List.getElem?_eq_getElem hkl] at hx
            cases hx
            exact he
          · exact HN.out j x (by omega) hx
        case measure => simp [intOf]; omega
    · go_wp2
      go_ret
      exact ⟨by rw [no_alpha HN.out (by omega)]; rfl, rfl⟩

theorem ok_alpha (c : UInt8) : (alpha.any fun x => (x.toNat : Int) == (c.toNat : Int)) = ok c := by
  have h : ∀ n : Fin 256, (alpha.any fun x => (x.toNat : Int) == ((UInt8.ofFin n).toNat : Int)) = ok (UInt8.ofFin n) := by decide +kernel
  exact h c.toFin
theorem ok_split (c : UInt8) : ok c = decide ((97 ≤ (c.toNat : Int) ∧ (c.toNat : Int) ≤ 122) ∨ (65 ≤ (c.toNat : Int) ∧ (c.toNat : Int) ≤ 90) ∨ (45 ≤ (c.toNat : Int) ∧ (c.toNat : Int) ≤ 58) ∨ (c.toNat : Int) = 95) := by
  have h : ∀ n : Fin 256, ok (UInt8.ofFin n) = decide ((97 ≤ ((UInt8.ofFin n).toNat : Int) ∧ ((UInt8.ofFin n).toNat : Int) ≤ 122) ∨ (65 ≤ ((UInt8.ofFin n).toNat : Int) ∧ ((UInt8.ofFin n).toNat : Int) ≤ 90) ∨ (45 ≤ ((UInt8.ofFin n).toNat : Int) ∧ ((UInt8.ofFin n).toNat : Int) ≤ 58) ∨ ((UInt8.ofFin n).toNat : Int) = 95) := by decide +kernel
  exact h c.toFin

theorem in10_ok (x : UInt8) (w : World) : Calls Try.prog 10 #[.int .u8 (x.toNat : Int)] w fun e w' => e = .returned (.bool (ok x)) ∧ w = w' := by
  refine (in10 (x.toNat : Int) w (by omega) (by have := x.toNat_lt; omega)).mono ?_
  rintro e w' ⟨rfl, rfl⟩
  exact ⟨by rw [ok_alpha], rfl⟩

/-- Every byte of s is in the alphabet. -/
def okAll (s : ByteArray) : Bool := s.data.toList.all ok
theorem okAll_true {s : ByteArray} (h : ∀ (j : Nat) (hj : j < s.size), ok s[j] = true) : okAll s = true := by
  unfold okAll
  rw [List.all_eq_true]
  intro x hx
  obtain ⟨j, hj⟩ := List.getElem?_of_mem hx
  obtain ⟨h1, rfl⟩ := List.getElem?_eq_some_iff.1 hj
  exact h j h1
theorem okAll_false {s : ByteArray} {j : Nat} (hj : j < s.size) (h : ok s[j] = false) : okAll s = false := by
  unfold okAll
  rw [List.all_eq_false]
  exact ⟨s[j], List.getElem_mem (l := s.data.toList) hj, by simp [h]⟩

set_option maxHeartbeats 1000000 in
theorem all9 (s : ByteArray) (w : World) (hs : s.size ≤ 1048576) :
    Calls Try.prog 9 #[.string s] w fun e w' => e = .returned (.bool (okAll s)) ∧ w = w' := by
  go_enter Try.func9, Try.ntmps9
  go_wp2
  go_loop [3] (fun i => ∃ k : Nat, k ≤ s.size ∧ i = .int .i64 k ∧ Hid (∀ (j : Nat) (hj : j < s.size), j < k → ok s[j] = true)) (fun i => s.size - (intOf i).toNat)
  case atStart => exact ⟨0, Nat.zero_le _, rfl, fun j _ hj => by omega⟩
  case round =>
    obtain ⟨k, hk, rfl, HN⟩ := hrel
    by_cases hlt : k < s.size
    · go_wp2_with fail
      refine (in10_ok _ _).mono ?_
      rintro e w' ⟨rfl, rfl⟩
      obtain ⟨b, HB⟩ : ∃ b, Hid (ok s[k] = b) := ⟨ok s[k], rfl⟩
      rw [HB.out]
      cases b
      · have HF : Hid (okAll s = false) := okAll_false hlt HB.out
        go_wp2
        go_ret
        exact ⟨by rw [HF.out]; rfl, rfl⟩
      · go_wp2
        go_round
        case rel =>
          refine ⟨k + 1, by omega, by go_num, ?_⟩
          intro j hj hjk
          by_cases e : j = k
          · subst e; exact HB.out
          · exact HN.out j hj (by omega)
        case measure => simp [intOf]; omega
    · have HF : Hid (okAll s = true) := okAll_true (fun j hj => HN.out j hj (by omega))
      go_wp2
      go_ret
      exact ⟨by rw [HF.out]; rfl, rfl⟩

/-- A valid name. -/
def valid (s : ByteArray) : Bool := decide (1 ≤ s.size) && decide (s.size ≤ 128) && okAll s

set_option maxHeartbeats 1000000 in
theorem model6 (s : ByteArray) (w : World) (hs : s.size ≤ 1048576) :
    Calls Try.prog 6 #[.string s] w fun e w' => e = .returned (.bool (valid s)) ∧ w = w' := by
  by_cases h1 : 1 ≤ s.size
  · by_cases h2 : s.size ≤ 128
    · have HV : Hid (valid s = okAll s) := by show _ = _; simp [valid, h1, h2]
      go_enter Try.func6, Try.ntmps6
      go_wp2_with fail
      refine (all9 s _ hs).mono ?_
      rintro e w' ⟨rfl, rfl⟩
      go_wp2
      go_ret
      exact ⟨by rw [HV.out]; rfl, rfl⟩
    · have HV : Hid (valid s = false) := by show _ = _; simp [valid, h2]
      go_enter Try.func6, Try.ntmps6
      go_wp2
      go_ret
      exact ⟨by rw [HV.out]; rfl, rfl⟩
  · have HV : Hid (valid s = false) := by show _ = _; simp [valid]; intro h; omega
    go_enter Try.func6, Try.ntmps6
    go_wp2
    go_ret
    exact ⟨by rw [HV.out]; rfl, rfl⟩
end Go.Proofs.Qxb6630207a
