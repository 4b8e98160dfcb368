import Derived.Test.Qxb6630073aPure
import Derived.LoopTactic
namespace Go.Proofs.Qxb6630073a
open Go.RowKit
set_option linter.unusedVariables false
set_option linter.unusedSimpArgs false

/-- The bytes of a slice that is read. -/
def Src (w : World) (B : Nat) (a : Option Addr) (len cap : Nat) (zs : List Int) : Prop :=
  zs.length = len ∧ (0 < len → ∃ xb xo, a = some ⟨xb, xo, none⟩ ∧ xb < B ∧ len ≤ cap ∧ cap ≤ maxLen ∧ ∀ j, j < len → w.cell? ⟨xb, xo + j, none⟩ = some (.int .u8 (zs.getD j 0)))

theorem Inv.drew {w : World} {B P N : Nat} {v : Value} {ps : List Pc} (h : Inv w B P v ps N) : Inv w.drew B P v ps N := h.drewN 1

theorem pick (a b : Nat) (ha : 0 < a) (hb : 0 < b) : ∃ n, Hid (n = Nat.min a b) ∧ 1 ≤ n ∧ n ≤ a ∧ n ≤ b :=
  ⟨Nat.min a b, rfl, by show 1 ≤ min a b; omega, Nat.min_le_left _ _, Nat.min_le_right _ _⟩

theorem src_cells {w w1 : World} {B xb xo len k n : Nat} {zs : List Int} (hz : zs.length = len) (hb : Below B w w1) (hxb : xb < B) (hn : n ≤ len - k)
    (hc : ∀ j, j < len → w.cell? ⟨xb, xo + j, none⟩ = some (.int .u8 (zs.getD j 0))) :
    ∀ j v, (((zs.drop k).take n).map (Value.int .u8))[j]? = some v → w1.cell? ((⟨xb, xo + k, none⟩ : Addr).add j) = some v := by
  intro j v hv
  have hj : j < n := by
    have := (List.getElem?_eq_some_iff.1 hv).1
    simp at this; omega
  rw [Addr.add_lit, Nat.add_assoc, hb.cell (p := ⟨xb, xo + (k + j), none⟩) hxb, hc (k + j) (by omega), ← hv]
  simp [List.getElem?_take, hj, List.getD, show k + j < zs.length by omega]

theorem take_step (zs : List Int) (k n : Nat) : zs.take k ++ (zs.drop k).take n = zs.take (k + n) := by
  rw [List.take_add]

set_option maxHeartbeats 2000000 in
theorem write_any {w : World} {B P N : Nat} {v : Value} {ps : List Pc} {a : Option Addr} {len cap : Nat} {zs : List Int}
    (h : Inv w B P v ps N) (hs : Src w B a len cap zs) (hN : N + len ≤ 1048576) (hp : ps.length + len ≤ 2500000) :
    Calls Try.prog 7 #[.pointer (some ⟨P, 0, none⟩), .slice a len cap] w fun e w' => e = .returned (.tuple #[.int .i64 len, .nilIface]) ∧
      ∃ v' ps', Inv w' B P v' ps' (N + len) ∧ Wrote ps zs ps' ∧ Below B w w' := by
  obtain ⟨hz, hsrc⟩ := hs
  have HZ : Hid (zs.length = len) := hz
  clear hz
  go_enter Try.func7, Try.ntmps7
  go_wp2
  go_loopw [6] (fun i wr => ∃ k : Nat, k ≤ len ∧ i = .int .i64 k ∧ ∃ v' ps', Inv wr B P v' ps' (N + k) ∧ Wrote ps (zs.take k) ps' ∧ Below B w wr) (fun i _ => len - (intOf i).toNat)
  case atStart => exact ⟨0, Nat.zero_le _, rfl, v, ps, h, Wrote.nothing ps, Below.refl _ _⟩
  case round =>
    obtain ⟨k, hk, rfl, v', ps', hinv, hwr, hbel⟩ := hrel
    by_cases hlt : k < len
    · obtain ⟨xb, xo, rfl, hxb, hlc, hcm, hcell⟩ := hsrc (by omega)
      unfold maxLen at hcm
      have hl2 : ps'.length ≤ 2500000 := by
        have := hwr.len
        have h2 : (zs.take k).length ≤ k := List.length_take_le _ _
        omega
      have HC : Hid (∀ j, j < len → w.cell? ⟨xb, xo + j, none⟩ = some (.int .u8 (zs.getD j 0))) := hcell
      clear hcell hsrc
      have hck : ¬ cap = k := by omega
      go_wp2
      go_region_law ((first | (go_simp; go_at_call 12; refine (room_any hinv.drew (by omega)).mono ?_; rintro e w1 ⟨v1, qs, p, hi1, hlt1, rfl, hb1, hr1⟩; obtain ⟨cur, hcur, hcs, hct⟩ := (hi1.pc p (by simp)).row; obtain ⟨n, HN, hn1, hn2, hn3⟩ := pick (len - k) (p.c - p.l.length) (by omega) (by omega)) | (refine step_copy_row (by rfl) (.tmp 13) (.tmp 16) 22 22 (by rfl) 5 Try.underlying22 (by kernel_rfl) p.b p.l.length (p.c - p.l.length) (p.c - p.l.length) ⟨xb, xo + k, none⟩ (len - k) (cap - k) (by simp [Act.eval, Act.put]) (by simp [Act.eval, Act.put]) cur 5 hcur (((zs.drop k).take n).map (Value.int .u8)) n (by have := HZ.out; simp; omega) (by rw [← HN.out]; have := HZ.out; simp; omega) (src_cells HZ.out (hbel.drew.trans hb1) hxb hn2 HC.out) (by have := HZ.out; simp; omega) (ints_oneCell _ _) ?_; intro w2 hw2)))
      have hfit : p.l.length + ((zs.drop k).take n).length ≤ p.c := by have := HZ.out; simp; omega
      have hlen : ((zs.drop k).take n).length = n := by have := HZ.out; simp; omega
      have hq : qs.length ≤ 2500000 := by have := roomy_length hr1; simp at this; omega
      obtain ⟨hi2, hb2, hrow2⟩ := hi1.copied hcur hcs hct hfit hw2.out
      rw [hlen] at hrow2 hfit
      go_wp2_with (go_at_call 13; refine (tookInv hi2 hlen (by omega) (by omega) hfit hrow2).mono ?_; rintro e w3 ⟨rfl, hi3, hb3⟩)
      go_roundw
      case rel =>
        refine ⟨k + n, by omega, by go_num, v1, qs ++ [⟨p.b, p.c, p.l ++ (zs.drop k).take n⟩], ?_, ?_, (hbel.drew.trans hb1).trans (hb2.trans hb3)⟩
        · rw [← Nat.add_assoc]; exact hi3
        · rw [← take_step]
          exact hwr.step hr1 (fun e => by rw [e] at hlen; simp at hlen; omega)
      case measure => simp [intOf]; omega
    · go_wp2
      have hkl : k = len := by omega
      subst hkl
      go_ret2
      refine ⟨rfl, _, _, hinv, ?_, hbel⟩
      rw [List.take_of_length_le (by have := HZ.out; omega)] at hwr
      exact hwr
end Go.Proofs.Qxb6630073a
