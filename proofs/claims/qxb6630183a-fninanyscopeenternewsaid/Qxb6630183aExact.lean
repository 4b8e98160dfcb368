import Derived.Test.Qxb6630183aAny
import Derived.WalkSmall
namespace Go.Proofs.Qxb6630183a
open Go.RowKit Go.Maps
set_option linter.unusedVariables false
set_option linter.unusedSimpArgs false

/-- No entry before the k-th is the last of its id and not left. -/
def NotGood (es : List (ByteArray × Bool)) (k : Nat) : Prop :=
  ∀ (i : Nat) (x : ByteArray × Bool), i < k → es[i]? = some x → (∀ (j : Nat) (y : ByteArray × Bool), i < j → es[j]? = some y → ¬ y.1 = x.1) → x.2 = true

theorem notGood_step {es : List (ByteArray × Bool)} {k : Nat} {x : ByteArray × Bool} (h : NotGood es k) (hx : es[k]? = some x)
    (hk : x.2 = true ∨ ∃ (j : Nat) (y : ByteArray × Bool), k < j ∧ es[j]? = some y ∧ y.1 = x.1) : NotGood es (k + 1) := by
  intro i x' hi hx' hn
  by_cases e : i = k
  · subst e
    rw [hx] at hx'
    cases hx'
    rcases hk with hk | ⟨j, y, h1, h2, h3⟩
    · exact hk
    · exact absurd h3 (hn j y h1 h2)
  · exact h i x' (by omega) hx' hn
theorem toList_inj {s t : ByteArray} (h : s.toList = t.toList) : s = t := by
  have e : ∀ u : ByteArray, u.toList = u.data.toList := fun u => ByteArray.toList_eq u
  rw [e, e] at h
  cases s; cases t
  simp only [ByteArray.mk.injEq]
  exact Array.toList_inj.1 h

set_option maxHeartbeats 4000000 in
theorem exact_some {w : World} {len cap : Nat} {x : Addr} {es : List (ByteArray × Bool)} (h : Ents w w.heap.size (some x) len cap es) (hl : len ≤ 4096) :
    Calls Try.prog 3 #[.slice (some x) len cap] w fun e w' => e = .returned (.bool true) ∧ Below w.heap.size w w' := by
  go_enter Try.func3, Try.ntmps3
  go_wp2_with fail
  refine (bytes5 h (by omega)).mono ?_
  rintro e w' ⟨⟨z, rfl⟩, rfl⟩
  cases z
  · go_wp2
    go_ret
    exact ⟨rfl, Below.refl _ _⟩
  go_wp2_with fail
  refine (bytes6 h (by omega)).mono ?_
  rintro e w' ⟨⟨z, rfl⟩, rfl⟩
  by_cases hz : 1048576 < z
  · go_wp2
    go_ret
    exact ⟨rfl, Below.refl _ _⟩
  go_wp2_with fail
  refine (build_some h (by omega)).mono ?_
  rintro e w1 ⟨u, D, rfl, hu, hbt, hb1⟩
  go_wp2_with fail
  refine (any_some hbt hu).mono ?_
  rintro e w2 ⟨rfl, hb2⟩
  have hb3 : Below w.heap.size w w2 := hb1.trans (hb2.mono hb1.size)
  have h2 := h.carry hb3 (Nat.le_refl _)
  clear hbt hu hb1 hb2 h
  obtain ⟨got, HG⟩ : ∃ got, Hid (got = inB es) := ⟨_, rfl⟩
  rw [← HG.out]
  go_wp2
  go_loopw [4, 5] (fun v i wr => ∃ (k : Nat) (b : Bool) (n : Nat), k ≤ len ∧ i = .int .i64 k ∧ v = .bool b ∧ wr = w2.drewN n ∧ Hid (if b then inB es = true else NotGood es k)) (fun _ i _ => len - (intOf i).toNat)
  case atStart => exact ⟨0, false, 0, Nat.zero_le _, rfl, rfl, rfl, fun i x hi => by omega⟩
  case round =>
    obtain ⟨k, b, n, hk, rfl, rfl, rfl, HR⟩ := hrel
    cases b
    · by_cases hlt : k < len
      · obtain ⟨xb, xo, s, l, hx, hes, c1, c2, c3, c4, c5⟩ := h2.at hlt
        cases hx
        unfold maxLen at c3 c5
        have HE : Hid (es[k]? = some (s, l)) := hes
        clear hes
        cases l
        · go_wp2
          go_loopw [6, 7] (fun v i wr => ∃ (j : Nat) (n : Nat), k + 1 ≤ j ∧ j ≤ len ∧ i = .int .i64 j ∧ v = .bool true ∧ wr = w2.drewN n ∧ Hid (∀ (j' : Nat) (y : ByteArray × Bool), k < j' → j' < j → es[j']? = some y → ¬ y.1 = s)) (fun _ i _ => len - (intOf i).toNat)
          case atStart => exact ⟨k + 1, n, Nat.le_refl _, by omega, by go_num, rfl, rfl, fun j' y h1 h2 => by omega⟩
          case round =>
            obtain ⟨j, n', hj1, hj2, rfl, rfl, rfl, HJ⟩ := hrel
            by_cases hjl : j < len
            · obtain ⟨xb', xo', s', l', hx, hes', d1, d2, d3, d4, d5⟩ := h2.at hjl
              cases hx
              unfold maxLen at d3
              have HE' : Hid (es[j]? = some (s', l')) := hes'
              clear hes' d4 d5
              by_cases heq : s' = s
              · subst heq
                go_wp2
                go_quiet (fail)
                go_wp2
                go_roundw
                case rel => exact ⟨k + 1, false, _, by omega, by go_num, rfl, rfl, notGood_step HR.out HE.out (.inr ⟨j, (s', l'), by omega, HE'.out, rfl⟩)⟩
                case measure => simp [intOf]; omega
              · have hne : (s'.toList == s.toList) = false := by
                  rw [beq_eq_false_iff_ne]
                  intro e
                  exact heq (toList_inj e)
                have HQ : Hid (¬ s' = s) := heq
                clear heq
                go_wp2
                go_quiet (fail)
                go_wp2
                go_roundw
                case rel =>
                  refine ⟨j + 1, _, by omega, by omega, by go_num, rfl, rfl, ?_⟩
                  intro j' y h1 h2' hy
                  by_cases hjj : j' = j
                  · subst hjj
                    have := HE'.out
                    rw [this] at hy
                    cases hy
                    exact HQ.out
                  · exact HJ.out j' y h1 (by omega) hy
                case measure => simp [intOf]; omega
            · have hjl' : j = len := by omega
              subst hjl'
              go_wp2
              go_roundw
              case rel =>
                refine ⟨k + 1, true, _, by omega, by go_num, rfl, rfl, ?_⟩
                refine inB_true es k (s, false) HE.out rfl (fun j' y h1 hy => HJ.out j' y h1 ?_ hy)
                have := (List.getElem?_eq_some_iff.1 hy).1
                have h3 := h2.1
                omega
              case measure => simp [intOf]; omega
        · go_wp2
          go_roundw
          case rel => exact ⟨k + 1, false, n, by omega, by go_num, rfl, rfl, notGood_step HR.out HE.out (.inl rfl)⟩
          case measure => simp [intOf]; omega
      · have hgf : got = false := by
          rw [HG.out]
          have hn : NotGood es k := HR.out
          exact inB_false es (fun i x hx hn' => hn i x (by have := (List.getElem?_eq_some_iff.1 hx).1; have h3 := h2.1; omega) hx hn')
        subst hgf
        go_wp2
        go_ret
        exact ⟨rfl, below_drewN hb3 n⟩
    · have hgt : got = true := by rw [HG.out]; exact HR.out
      subst hgt
      by_cases hlt : k < len
      all_goals
        go_wp2
        go_ret
        exact ⟨rfl, below_drewN hb3 n⟩

set_option maxHeartbeats 1000000 in
theorem exact_big {w : World} {len cap : Nat} {a : Option Addr} {es : List (ByteArray × Bool)} (h : Ents w w.heap.size a len cap es) (hl : 4096 < len) (hm : len ≤ 9223372036854775807) :
    Calls Try.prog 3 #[.slice a len cap] w fun e w' => e = .returned (.bool true) ∧ Below w.heap.size w w' := by
  go_enter Try.func3, Try.ntmps3
  go_wp2_with fail
  refine (bytes5 h hm).mono ?_
  rintro e w' ⟨⟨z, rfl⟩, rfl⟩
  cases z
  all_goals
    go_wp2
    go_ret
    exact ⟨rfl, Below.refl _ _⟩

set_option maxHeartbeats 1000000 in
theorem exact_nil (w : World) : Calls Try.prog 3 #[.slice none 0 0] w fun e w' => e = .returned (.bool true) ∧ Below w.heap.size w w' := by
  have h : Ents w w.heap.size none 0 0 [] := ⟨rfl, fun h => by omega⟩
  go_enter Try.func3, Try.ntmps3
  go_wp2_with fail
  refine (bytes5 h (by omega)).mono ?_
  rintro e w' ⟨⟨z, rfl⟩, rfl⟩
  cases z
  · go_wp2
    go_ret
    exact ⟨rfl, Below.refl _ _⟩
  go_wp2_with fail
  refine (bytes6 h (by omega)).mono ?_
  rintro e w' ⟨⟨z, rfl⟩, rfl⟩
  by_cases hz : 1048576 < z
  · go_wp2
    go_ret
    exact ⟨rfl, Below.refl _ _⟩
  go_wp2_with fail
  refine (build_nil w).mono ?_
  rintro e w1 ⟨u, rfl, hu, hb1⟩
  go_wp2_with fail
  refine (any_nil hu).mono ?_
  rintro e w2 ⟨rfl, hb2⟩
  have hb3 : Below w.heap.size w w2 := hb1.trans (hb2.mono hb1.size)
  go_wp2
  refine wp_loop_rounds 1 ?_
  rw [rounds_succ]
  go_wp2
  go_ret
  exact ⟨rfl, hb3⟩

theorem exact_any {w : World} {len cap : Nat} {a : Option Addr} {es : List (ByteArray × Bool)} (h : Ents w w.heap.size a len cap es) (hn : a = none → len = 0 ∧ cap = 0) (hm : len ≤ 9223372036854775807) :
    Calls Try.prog 3 #[.slice a len cap] w fun e w' => e = .returned (.bool true) ∧ Below w.heap.size w w' := by
  cases a with
  | none => obtain ⟨rfl, rfl⟩ := hn rfl; exact exact_nil w
  | some x =>
    by_cases hl : len ≤ 4096
    · exact exact_some h hl
    · exact exact_big h (by omega) hm
end Go.Proofs.Qxb6630183a
