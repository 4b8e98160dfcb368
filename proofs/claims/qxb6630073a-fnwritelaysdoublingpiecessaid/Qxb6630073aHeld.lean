import Derived.Test.Qxb6630073aWrite
namespace Go.Proofs.Qxb6630073a
open Go.RowKit
set_option linter.unusedVariables false
set_option linter.unusedSimpArgs false

/-- The pieces, as they are read. -/
def Reads (w : World) (ao : Option Addr) (ps : List Pc) : Prop :=
  ∀ i p, ps[i]? = some p → ∃ g, ao = some ⟨g, 0, none⟩ ∧ w.cell? ⟨g, i, none⟩ = some (.slice (some ⟨p.b, 0, none⟩) p.l.length p.c) ∧ p.c ≤ 1048576 ∧
    ∀ j, j < p.l.length → w.cell? ⟨p.b, j, none⟩ = some (.int .u8 (p.l.getD j 0))

theorem Inv.reads {w : World} {B P N : Nat} {v : Value} {ps : List Pc} (h : Inv w B P v ps N) : ∃ ao cp, v = .slice ao ps.length cp ∧ Reads w ao ps := by
  rcases h.own.2 with ⟨rfl, h0⟩ | ⟨g, cp, cur, rfl, -⟩
  · have : ps = [] := List.eq_nil_of_length_eq_zero h0
    subst this
    exact ⟨none, 0, rfl, fun i p hp => by simp at hp⟩
  · refine ⟨some ⟨g, 0, none⟩, cp, rfl, fun i p hp => ⟨g, rfl, ?_, ?_, ?_⟩⟩
    · have := h.own.cells (g := g) rfl i p.hd (by simp [hp])
      rw [Addr.add_lit, Nat.zero_add] at this
      exact this
    · exact (h.pc p (List.mem_of_getElem? hp)).room
    · intro j hj
      obtain ⟨cur2, h1, h2, h3⟩ := (h.pc p (List.mem_of_getElem? hp)).row
      rw [cell_of_row w p.b j cur2 5 (0, 0) h1]
      have e : (cur2.toList.take p.l.length)[j]? = (p.l.map (Value.int .u8))[j]? := by rw [h3]
      rw [List.getElem?_take, if_pos hj] at e
      simpa [List.getD, hj] using e

theorem flat_mid (xs ys : List Pc) (p : Pc) : flat (xs ++ p :: ys) = flat xs ++ (p.l ++ flat ys) := by simp [flat]
theorem flat_end (xs : List Pc) (p : Pc) : flat (xs ++ [p]) = flat xs ++ p.l := by simp [flat]
theorem flat_split {ps : List Pc} {i : Nat} {p : Pc} (hp : ps[i]? = some p) : flat ps = flat (ps.take i) ++ (p.l ++ flat (ps.drop (i + 1))) := by
  obtain ⟨hi, rfl⟩ := List.getElem?_eq_some_iff.1 hp
  have e : ps = ps.take i ++ ps[i] :: ps.drop (i + 1) := by rw [← List.drop_eq_getElem_cons hi, List.take_append_drop]
  exact (congrArg flat e).trans (flat_mid _ _ _)
theorem flat_take_succ {ps : List Pc} {i : Nat} {p : Pc} (hp : ps[i]? = some p) : flat (ps.take (i + 1)) = flat (ps.take i) ++ p.l := by
  obtain ⟨hi, rfl⟩ := List.getElem?_eq_some_iff.1 hp
  rw [List.take_succ_eq_append_getElem hi]; exact flat_end _ _
theorem flat_at {ps : List Pc} {zs : List Int} {i j : Nat} {p : Pc} (hf : flat ps = zs) (hp : ps[i]? = some p) (hj : j < p.l.length) :
    (flat (ps.take i)).length + j < zs.length ∧ zs.getD ((flat (ps.take i)).length + j) 0 = p.l.getD j 0 := by
  rw [flat_split hp] at hf
  subst hf
  refine ⟨by simp; omega, ?_⟩
  simp [List.getD, List.getElem?_append_right, List.getElem?_append_left, hj]

set_option maxHeartbeats 2000000 in
theorem held_any {w : World} {ao a : Option Addr} {cp len cap : Nat} {ps : List Pc} {zs : List Int} (B : Nat)
    (hr : Reads w ao ps) (hs : Src w B a len cap zs) (hf : flat ps = zs) (hlen : len ≤ 1048576) (hps : ps.length ≤ 4000000) :
    Calls Try.prog 9 #[.slice ao ps.length cp, .slice a len cap] w fun e w' => e = .returned (.bool true) ∧ ∃ n, w' = w.drewN n := by
  obtain ⟨hz, hsrc⟩ := hs
  have HZ : Hid (zs.length = len) := hz
  have HF : Hid (flat ps = zs) := hf
  clear hz hf
  go_enter Try.func9, Try.ntmps9
  go_wp2
  go_loopw [5, 6] (fun kk ii wr => ∃ i K : Nat, i ≤ ps.length ∧ K ≤ len ∧ ii = .int .i64 i ∧ kk = .int .i64 K ∧ Hid (K = (flat (ps.take i)).length) ∧ ∃ n, wr = w.drewN n) (fun _ ii _ => ps.length - (intOf ii).toNat)
  case atStart => exact ⟨0, 0, Nat.zero_le _, Nat.zero_le _, rfl, rfl, rfl, 0, rfl⟩
  case round =>
    obtain ⟨i, K, hi, hK, rfl, rfl, HK, n, rfl⟩ := hrel
    by_cases hlt : i < ps.length
    · obtain ⟨g, rfl, hcell, hpc, hbytes⟩ := hr i ps[i] (List.getElem?_eq_getElem hlt)
      have HP : Hid (ps[i]? = some ps[i]) := List.getElem?_eq_getElem hlt
      generalize ps[i] = p at hcell hpc hbytes HP
      have hpl : p.l.length ≤ 1048576 := by
        by_cases h0 : 0 < p.l.length
        · have := (flat_at HF.out HP.out (j := p.l.length - 1) (by omega)).1
          have := HZ.out
          omega
        · omega
      have HB : Hid (∀ j, j < p.l.length → w.cell? ⟨p.b, j, none⟩ = some (.int .u8 (p.l.getD j 0))) := hbytes
      clear hbytes
      go_wp2
      go_loopw [5, 8] (fun kk jj wr => ∃ j k : Nat, j ≤ p.l.length ∧ k ≤ len ∧ jj = .int .i64 j ∧ kk = .int .i64 k ∧ Hid (k = K + j) ∧ ∃ n, wr = w.drewN n) (fun _ jj _ => p.l.length - (intOf jj).toNat)
      case atStart => exact ⟨0, K, Nat.zero_le _, hK, rfl, rfl, rfl, n, rfl⟩
      case round =>
        obtain ⟨j, k, hj, hk, rfl, rfl, HJ, n', rfl⟩ := hrel
        by_cases hjl : j < p.l.length
        · obtain ⟨hz1, hz2⟩ := flat_at HF.out HP.out hjl
          rw [← HK.out, ← HJ.out] at hz1 hz2
          have hkl : k < len := by have := HZ.out; omega
          obtain ⟨xb, xo, rfl, hxb, hlc, hcm, hcw⟩ := hsrc (by omega)
          unfold maxLen at hcm
          have h1 := HB.out j hjl
          have h2 := hcw k hkl
          rw [hz2] at h2
          generalize p.l.getD j 0 = x at h1 h2
          clear hz1 hz2 hcw hsrc
          have hd : decide ((len : Int) ≤ (k : Int)) = false := by simp; omega
          go_wp2
          go_quiet (fail)
          go_wp2
          go_roundw
          case rel => exact ⟨j + 1, k + 1, by omega, by omega, by go_num, by go_num, (by have := HJ.out; show k + 1 = K + (j + 1); omega), _, rfl⟩
          case measure => simp [intOf]; omega
        · go_wp2
          go_roundw
          case rel =>
            refine ⟨i + 1, k, by omega, hk, by go_num, rfl, ?_, _, rfl⟩
            have h1 := flat_take_succ HP.out
            have h2 := HK.out
            have h3 := HJ.out
            show k = _
            rw [h1, List.length_append]
            omega
          case measure => simp [intOf]; omega
    · have hKl : K = len := by
        have h1 := HK.out
        rw [List.take_of_length_le (by omega), HF.out] at h1
        have := HZ.out
        omega
      subst hKl
      go_wp2
      go_ret
      exact ⟨rfl, _, rfl⟩
end Go.Proofs.Qxb6630073a
