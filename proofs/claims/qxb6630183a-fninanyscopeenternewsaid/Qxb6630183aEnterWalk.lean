import Derived.Test.Qxb6630183aEnter
namespace Go.Proofs.Qxb6630183a
open Go.RowKit Go.Maps
set_option linter.unusedVariables false
set_option linter.unusedSimpArgs false

set_option maxRecDepth 100000 in
set_option maxHeartbeats 4000000 in
theorem enter_in {w : World} {len cap p : Nat} {a : Option Addr} {es : List (ByteArray × Bool)} (id : ByteArray) (left : Bool) (h : Ents w w.heap.size a len cap es) (hn : a = none → len = 0 ∧ cap = 0)
    (hl : len ≤ 4096) (hid : id.size ≤ 65536) (hp : p ≤ len) :
    Calls Try.prog 4 #[.slice a len cap, .int .i64 p, .string id, .bool left] w fun e w' => e = .returned (.bool true) ∧ Below w.heap.size w w' := by
  obtain ⟨i0, hi, hz0, hz1, hz2⟩ := info_parts Try.info29
  have hmk := make_row (len + 1) ((len : Int) + 1) (by omega) (by omega)
  go_enter Try.func4, Try.ntmps4
  go_wp2_with fail
  refine (bytes9 p id left h (by omega) (by omega)).mono ?_
  rintro e w' ⟨⟨z, rfl⟩, rfl⟩
  cases z
  · go_wp2
    go_ret
    exact ⟨rfl, Below.refl _ _⟩
  go_wp2_with fail
  refine (bytes6 h (by omega)).mono ?_
  rintro e w' ⟨⟨z, rfl⟩, rfl⟩
  go_wp2_with fail
  · go_ret
    exact ⟨rfl, Below.refl _ _⟩
  go_loop [9] (fun i => ∃ k : Nat, k ≤ len ∧ i = .int .i64 k ∧ Hid (∀ (j : Nat) (x : ByteArray × Bool), j < k → es[j]? = some x → ¬ x.1 = id)) (fun i => len - (intOf i).toNat)
  case atStart => exact ⟨0, Nat.zero_le _, rfl, fun j x hj => by omega⟩
  case round =>
    obtain ⟨k, hk, rfl, HN⟩ := hrel
    by_cases hlt : k < len
    · obtain ⟨xb, xo, s, l, rfl, hes, c1, c2, c3, c4, c5⟩ := h.at hlt
      unfold maxLen at c3 c5
      have HE : Hid (es[k]? = some (s, l)) := hes
      clear hes
      by_cases heq : s = id
      · subst heq
        go_wp2
        go_ret
        exact ⟨rfl, Below.refl _ _⟩
      · have hne : (s.toList == id.toList) = false := by
          rw [beq_eq_false_iff_ne]
          exact fun e => heq (toList_inj e)
        have HQ : Hid (¬ s = id) := heq
        clear heq
        go_wp2
        go_round
        case rel =>
          refine ⟨k + 1, by omega, by go_num, ?_⟩
          intro j x hj hx
          by_cases e : j = k
          · subst e
            rw [HE.out] at hx
            cases hx
            exact HQ.out
          · exact HN.out j x (by omega) hx
        case measure => simp [intOf]; omega
    · have hkl : len = k := by omega
      subst hkl
      clear hlt hk
      go_wp2_with fail
      refine (build_any h hn (by omega)).mono ?_
      rintro e w1 ⟨u, rfl, hv1, hb1⟩
      go_wp2_with fail
      refine (any_any hv1).mono ?_
      rintro e w2 ⟨rfl, hb2⟩
      have hb3 : Below w.heap.size w w2 := hb1.trans (hb2.mono hb1.size)
      have h2 := h.carry hb3 (Nat.le_refl _)
      have hsz := hb3.size
      clear hv1 hb1 hb2
      obtain ⟨before, HB⟩ : ∃ b, Hid (b = inB es) := ⟨_, rfl⟩
      rw [← HB.out]
      obtain ⟨bs, HS⟩ : ∃ bs, Hid (bs = put es p id left) := ⟨_, rfl⟩
      have HLOW : Hid (∀ (k : Nat) (x : ByteArray × Bool), k < p → es[k]? = some x → bs[k]? = some x) := fun k x hk hx => by rw [HS.out]; exact put_low hk hx
      have HMID : Hid (bs[p]? = some (id, left)) := by show _ = _; rw [HS.out]; exact put_mid es p id left (by rw [h.1]; exact hp)
      have HHIGH : Hid (∀ (k : Nat) (x : ByteArray × Bool), p ≤ k → es[k]? = some x → bs[k + 1]? = some x) := fun k x hk hx => by rw [HS.out]; exact put_high (by rw [h.1]; exact hp) hk hx
      have HLEN : Hid (bs.length = len + 1) := by show _ = _; rw [HS.out, put_length es p id left (by rw [h.1]; exact hp), h.1]
      go_wp2
      go_loopw [11, 12] (fun v i wr => ∃ k : Nat, k ≤ p ∧ i = .int .i64 k ∧ v = .slice (some ⟨w2.heap.size, 0, none⟩) k (len + 1) ∧ wr.ownsRow w2.heap.size 29 2 (.slice (some ⟨w2.heap.size, 0, none⟩) k (len + 1)) k (cellsOf (bs.take k)) ∧ Below w2.heap.size w2 wr) (fun _ i _ => p - (intOf i).toNat)
      case atStart => exact ⟨0, Nat.zero_le _, rfl, rfl, World.ownsRow_made w2 _ (len + 1) (Nat.le_refl _) (by unfold maxLen; omega) (size_madeCells _ _), (Below.refl _ _).alloc (Nat.le_refl _) _⟩
      case round =>
        obtain ⟨k, hk, rfl, rfl, hown, hbw⟩ := hrel
        by_cases hlt : k < p
        · obtain ⟨xb, xo, s, l, rfl, hes, c1, c2, c3, c4, c5⟩ := (h2.carry (hbw.mono hsz) (Nat.le_refl _)).at (k := k) (by omega)
          unfold maxLen at c3 c5
          have HE : Hid (bs[k]? = some (s, l)) := HLOW.out k _ hlt hes
          clear hes
          go_wp2_with (at_builtin; refine wpList_append_fits _ rfl (.tmp 68) (.tmp 73) 22 rfl w2.heap.size 29 i0 2 Try.underlying22 hi hz1 w2.heap.size k (len + 1) _ rfl (hown.alloc _) ⟨wr.heap.size, 0, none⟩ 1 1 [.string s, .bool l] rfl rfl (World.news_of_block (heap_alloc_new wr _)) (by simp [Value.oneCell']) (by omega) ?_; intro w3 hown3 hgrow3)
          go_roundw
          case rel =>
            refine ⟨k + 1, by omega, by go_num, rfl, ?_, ?_⟩
            · rw [cellsOf_snoc HE.out]; exact hown3
            · exact (hbw.alloc hbw.size _).grown hgrow3 (by have := hbw.size; simp; omega) (fun j hj => by cases hj; exact Nat.le_refl _)
          case measure => simp [intOf]; omega
        · have hkp : p = k := by omega
          subst hkp
          clear hlt hk
          go_wp2_with (at_builtin; refine wpList_append_fits _ rfl (.tmp 75) (.tmp 79) 22 rfl w2.heap.size 29 i0 2 Try.underlying22 hi hz1 w2.heap.size p (len + 1) _ rfl (hown.alloc _) ⟨wr.heap.size, 0, none⟩ 1 1 [.string id, .bool left] rfl rfl (World.news_of_block (heap_alloc_new wr _)) (by simp [Value.oneCell']) (by omega) ?_; intro w3 hown3 hgrow3)
          have hbw3 : Below w2.heap.size w2 w3 := (hbw.alloc hbw.size _).grown hgrow3 (by have := hbw.size; simp; omega) (fun j hj => by cases hj; exact Nat.le_refl _)
          rw [← cellsOf_snoc HMID.out] at hown3
          clear hown hbw hgrow3
          go_loopw [11, 13] (fun v i wr => ∃ k : Nat, p ≤ k ∧ k ≤ len ∧ i = .int .i64 k ∧ v = .slice (some ⟨w2.heap.size, 0, none⟩) (k + 1) (len + 1) ∧ wr.ownsRow w2.heap.size 29 2 (.slice (some ⟨w2.heap.size, 0, none⟩) (k + 1) (len + 1)) (k + 1) (cellsOf (bs.take (k + 1))) ∧ Below w2.heap.size w2 wr) (fun _ i _ => len - (intOf i).toNat)
          case atStart => exact ⟨p, Nat.le_refl _, hp, rfl, rfl, hown3, hbw3⟩
          case round =>
            clear hown3 hbw3
            obtain ⟨k, hpk, hk, rfl, rfl, hown, hbw⟩ := hrel
            by_cases hlt : k < len
            · obtain ⟨xb, xo, s, l, rfl, hes, c1, c2, c3, c4, c5⟩ := (h2.carry (hbw.mono hsz) (Nat.le_refl _)).at (k := k) (by omega)
              unfold maxLen at c3 c5
              have HE : Hid (bs[k + 1]? = some (s, l)) := HHIGH.out k _ hpk hes
              clear hes
              go_wp2_with (at_builtin; refine wpList_append_fits _ rfl (.tmp 88) (.tmp 93) 22 rfl w2.heap.size 29 i0 2 Try.underlying22 hi hz1 w2.heap.size (k + 1) (len + 1) _ rfl (hown.alloc _) ⟨wr.heap.size, 0, none⟩ 1 1 [.string s, .bool l] rfl rfl (World.news_of_block (heap_alloc_new wr _)) (by simp [Value.oneCell']) (by omega) ?_; intro w4 hown4 hgrow4)
              go_roundw
              case rel =>
                refine ⟨k + 1, by omega, by omega, by go_num, rfl, ?_, ?_⟩
                · rw [cellsOf_snoc HE.out]; exact hown4
                · exact (hbw.alloc hbw.size _).grown hgrow4 (by have := hbw.size; simp; omega) (fun j hj => by cases hj; exact Nat.le_refl _)
              case measure => simp [intOf]; omega
            · have hkl : len = k := by omega
              subst hkl
              clear hlt hk hmk
              rw [List.take_of_length_le (by have := HLEN.out; omega)] at hown
              have hents := ents_of_own hown HLEN.out (Nat.le_refl _) (by omega) (by
                intro x hx
                rw [HS.out] at hx
                unfold put at hx
                rcases List.mem_append.1 hx with hx | hx
                · exact h.sizes x (List.mem_of_mem_take hx)
                · rcases List.mem_cons.1 hx with rfl | hx
                  · unfold maxLen; show id.size ≤ _; omega
                  · exact h.sizes x (List.mem_of_mem_drop hx))
              clear hown
              go_wp2_with fail
              refine (build_some hents (by omega)).mono ?_
              rintro e w5 ⟨u5, D5, rfl, hu5, hbt5, hb5⟩
              go_wp2_with fail
              refine (any_some hbt5 hu5).mono ?_
              rintro e w6 ⟨rfl, hb6⟩
              have hend : Below w.heap.size w w6 := hb3.trans ((hbw.mono hsz).trans ((hb5.mono (Nat.le_trans hsz hbw.size)).trans (hb6.mono (Nat.le_trans hsz (Nat.le_trans hbw.size hb5.size)))))
              have HFin : Hid (inB bs = (before || !left)) := by
                show _ = _
                rw [HS.out, HB.out]
                have := inB_insert id left (es.take p) (es.drop p) (fun x hx => by
                  rw [List.take_append_drop] at hx
                  obtain ⟨j, hj⟩ := List.getElem?_of_mem hx
                  exact HN.out j x (by have := (List.getElem?_eq_some_iff.1 hj).1; rw [h.1] at this; exact this) hj)
                rw [List.take_append_drop] at this
                exact this
              rw [HFin.out]
              clear hbt5 hu5 hb5 hb6 hents
              cases before
              all_goals
                go_wp2
                go_ret
                exact ⟨by simp, hend⟩

set_option maxHeartbeats 1000000 in
theorem enter_big {w : World} {len cap : Nat} {a : Option Addr} {es : List (ByteArray × Bool)} (p : Int) (id : ByteArray) (left : Bool) (h : Ents w w.heap.size a len cap es) (hm : len ≤ 9223372036854775807) (hid : id.size ≤ 9223372036854775807)
    (hb : 4096 < len ∨ 65536 < id.size) :
    Calls Try.prog 4 #[.slice a len cap, .int .i64 p, .string id, .bool left] w fun e w' => e = .returned (.bool true) ∧ Below w.heap.size w w' := by
  by_cases h1 : 4096 < len
  · clear hb
    go_enter Try.func4, Try.ntmps4
    go_wp2_with fail
    refine (bytes9 p id left h hm hid).mono ?_
    rintro e w' ⟨⟨z, rfl⟩, rfl⟩
    cases z
    all_goals
      go_wp2
      go_ret
      exact ⟨rfl, Below.refl _ _⟩
  · have h2 : 65536 < id.size := by omega
    clear hb
    go_enter Try.func4, Try.ntmps4
    go_wp2_with fail
    refine (bytes9 p id left h hm hid).mono ?_
    rintro e w' ⟨⟨z, rfl⟩, rfl⟩
    cases z
    all_goals
      go_wp2
      go_ret
      exact ⟨rfl, Below.refl _ _⟩

set_option maxHeartbeats 1000000 in
theorem enter_out {w : World} {len cap : Nat} {a : Option Addr} {es : List (ByteArray × Bool)} (p : Int) (id : ByteArray) (left : Bool) (h : Ents w w.heap.size a len cap es) (hl : len ≤ 4096) (hid : id.size ≤ 65536)
    (hb : p < 0 ∨ (len : Int) < p) :
    Calls Try.prog 4 #[.slice a len cap, .int .i64 p, .string id, .bool left] w fun e w' => e = .returned (.bool true) ∧ Below w.heap.size w w' := by
  by_cases h1 : p < 0
  · clear hb
    go_enter Try.func4, Try.ntmps4
    go_wp2_with fail
    refine (bytes9 p id left h (by omega) (by omega)).mono ?_
    rintro e w' ⟨⟨z, rfl⟩, rfl⟩
    cases z
    · go_wp2
      go_ret
      exact ⟨rfl, Below.refl _ _⟩
    go_wp2_with fail
    refine (bytes6 h (by omega)).mono ?_
    rintro e w' ⟨⟨z, rfl⟩, rfl⟩
    go_wp2
    all_goals
      go_ret
      exact ⟨rfl, Below.refl _ _⟩
  · have h2 : (len : Int) < p := by omega
    clear hb
    go_enter Try.func4, Try.ntmps4
    go_wp2_with fail
    refine (bytes9 p id left h (by omega) (by omega)).mono ?_
    rintro e w' ⟨⟨z, rfl⟩, rfl⟩
    cases z
    · go_wp2
      go_ret
      exact ⟨rfl, Below.refl _ _⟩
    go_wp2_with fail
    refine (bytes6 h (by omega)).mono ?_
    rintro e w' ⟨⟨z, rfl⟩, rfl⟩
    go_wp2
    all_goals
      go_ret
      exact ⟨rfl, Below.refl _ _⟩

theorem enter_any {w : World} {len cap : Nat} {a : Option Addr} {es : List (ByteArray × Bool)} (p : Int) (id : ByteArray) (left : Bool) (h : Ents w w.heap.size a len cap es) (hn : a = none → len = 0 ∧ cap = 0)
    (hm : len ≤ 9223372036854775807) (hid : id.size ≤ 9223372036854775807) :
    Calls Try.prog 4 #[.slice a len cap, .int .i64 p, .string id, .bool left] w fun e w' => e = .returned (.bool true) ∧ Below w.heap.size w w' := by
  by_cases h1 : 4096 < len ∨ 65536 < id.size
  · exact enter_big p id left h hm hid h1
  · by_cases h2 : p < 0 ∨ (len : Int) < p
    · exact enter_out p id left h (by omega) (by omega) h2
    · obtain ⟨q, rfl⟩ := Int.eq_ofNat_of_zero_le (show 0 ≤ p by omega)
      exact enter_in id left h hn (by omega) (by omega) (by omega)
end Go.Proofs.Qxb6630183a
