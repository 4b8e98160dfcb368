import Derived.Test.Qxb6630183aBuild
namespace Go.Proofs.Qxb6630183a
open Go.RowKit Go.Maps
open Go.WideMaps (keyOf_string_mk)
set_option linter.unusedVariables false
set_option linter.unusedSimpArgs false

/-- In a scope: some entry is not left, and no later one bears its id. -/
def inB : List (ByteArray × Bool) → Bool
  | [] => false
  | x :: r => (!x.2 && !(r.any fun y => decide (y.1 = x.1))) || inB r

theorem inB_true : ∀ (es : List (ByteArray × Bool)) (i : Nat) (x : ByteArray × Bool), es[i]? = some x → x.2 = false → (∀ (j : Nat) (y : ByteArray × Bool), i < j → es[j]? = some y → ¬ y.1 = x.1) → inB es = true
  | [], i, x, h, _, _ => by simp at h
  | e :: r, 0, x, h, hx, hn => by
    simp at h
    subst h
    have : (r.any fun y => decide (y.1 = e.1)) = false := by
      rw [List.any_eq_false]
      intro y hy
      obtain ⟨j, hj⟩ := List.getElem?_of_mem hy
      simpa using hn (j + 1) y (by omega) (by simpa using hj)
    simp [inB, hx, this]
  | e :: r, i + 1, x, h, hx, hn => by
    have := inB_true r i x (by simpa using h) hx (fun j y hj hy => hn (j + 1) y (by omega) (by simpa using hy))
    simp [inB, this]
theorem inB_false : ∀ (es : List (ByteArray × Bool)), (∀ (i : Nat) (x : ByteArray × Bool), es[i]? = some x → (∀ (j : Nat) (y : ByteArray × Bool), i < j → es[j]? = some y → ¬ y.1 = x.1) → x.2 = true) → inB es = false
  | [], _ => rfl
  | e :: r, h => by
    have h1 := inB_false r (fun i x hx hn => h (i + 1) x (by simpa using hx) (fun j y hj hy => by
      match j, hj with
      | j + 1, hj => exact hn j y (by omega) (by simpa using hy)))
    simp only [inB, h1, Bool.or_false]
    cases hl : e.2
    · have : (r.any fun y => decide (y.1 = e.1)) = true := by
        cases ha : (r.any fun y => decide (y.1 = e.1))
        · exfalso
          rw [List.any_eq_false] at ha
          have := h 0 e rfl (fun j y hj hy => by
            match j, hj with
            | j + 1, _ =>
              have hm := List.mem_of_getElem? (show r[j]? = some y by simpa using hy)
              simpa using ha y hm)
          rw [hl] at this
          cases this
        · rfl
      simp [this]
    · simp

theorem keyOf_string_inv {kv : Value} {kl : Lit} (h : keyOf Try.prog 9 kv = some kl) : ∃ s : ByteArray, kv = .string s := by
  cases kv <;> simp [keyOf, Try.underlying9, mapKey] at h
  exact ⟨_, rfl⟩

theorem Below.of_grown {w w' : World} (h : w.grownBy w' none) : Below w.heap.size w w' := ⟨h.os, h.tape, h.output, h.size, fun k hk => h.block k hk (by simp)⟩

theorem built_false {w : World} {B : Nat} {es : List (ByteArray × Bool)} {D : DataW Unit} (hb : Built w B es D)
    (h : ∀ kl, Maps.has D kl = true → ∀ b : Nat, (∀ zd, D.atKey kl zd = .lit (.int .i64 b)) → w.cell? ⟨b, 2, none⟩ = some (.bool true)) : inB es = false := by
  apply inB_false
  intro i x hx hn
  have h1 := hb.all i x hx
  obtain ⟨i', x', b, k1, k2, k3, k4, _, k6⟩ := hb.who _ h1
  have hxx : x.1 = x'.1 := key_inj k2
  have hii : i = i' := by
    rcases Nat.lt_trichotomy i i' with hlt | he | hlt
    · exact absurd hxx.symm (hn i' x' hlt k1)
    · exact he
    · exact absurd hxx (k3 i x hlt hx)
  subst hii
  rw [hx] at k1
  cases k1
  have := h _ h1 b k4
  rw [k6] at this
  simpa using this

theorem built_at {w : World} {B c : Nat} {es : List (ByteArray × Bool)} {D yd : DataW Unit} {yp : List MemPlace} {kl : Lit} (hb : Built w B es D) (hk : Maps.has D kl = true)
    (hv : elemP (.pointer (some ⟨c, 0, none⟩)) = some (yd, yp)) (hat : ∀ zd, D.atKey kl zd = yd) : ∃ l, w.cell? ⟨c, 2, none⟩ = some (.bool l) ∧ Hid (l = false → inB es = true) := by
  obtain ⟨i, x, b, k1, k2, k3, k4, _, k6⟩ := hb.who kl hk
  obtain ⟨c', e1, e2⟩ := elemP_inv hv
  have e3 := (hat .nil).symm.trans (k4 .nil)
  cases e1
  cases e2
  simp at e3
  have e4 : c = b := by omega
  subst e4
  exact ⟨x.2, k6, fun hl => inB_true es i x k1 hl k3⟩

set_option maxHeartbeats 1000000 in
theorem any_some {w : World} {B u : Nat} {es : List (ByteArray × Bool)} {D : DataW Unit} (hb : Built w B es D) (hu : w.cell? ⟨u, 7, none⟩ = some (.map (some B))) :
    Calls Try.prog 8 #[.pointer (some ⟨u, 0, none⟩)] w fun e w' => e = .returned (.bool (inB es)) ∧ Below w.heap.size w w' := by
  have hown := hb.own
  go_enter Try.func8, Try.ntmps8
  go_wp2_with (at_range; refine wpList_range_own _ rfl _ 31 rfl 9 32 law9 Try.underlying31 _ B es.length D rfl hown ?_; intro w0 hrg0 hg0 hs0)
  go_frame
  go_loopw [4] (fun _ wr => ∃ (left : Lit → Bool) (cnt : Nat), wr.ranges Try.prog 9 elemP B w.heap.size es.length D left cnt ∧ w.grownBy wr none ∧ (∀ kl, left kl = true → Maps.has D kl = true) ∧
      Hid (∀ kl, Maps.has D kl = true → left kl = false → ∀ b : Nat, (∀ zd, D.atKey kl zd = .lit (.int .i64 b)) → w.cell? ⟨b, 2, none⟩ = some (.bool true))) (fun _ wr => wr.rangeLeft B w.heap.size)
  case atStart => exact ⟨_, _, hrg0, hg0, fun _ h => h, fun kl h1 h2 => by rw [h1] at h2; cases h2⟩
  case round =>
    obtain ⟨left, cnt, hrg, hgw, hlh, HD⟩ := hrel
    go_wp2_with (at_next; refine wpList_next_ranges _ rfl _ rfl 9 law9 elemP Value.string (fun b : Nat => Value.pointer (some ⟨b, 0, none⟩)) (fun _ _ h => keyOf_string_inv h) (fun _ _ h => by obtain ⟨b, h1, _⟩ := elemP_inv h; exact ⟨b, h1⟩) B w.heap.size es.length D left cnt rfl hrg ?_ ?_)
    · intro _ hl0
      have HFin : Hid (inB es = false) := built_false hb (fun kl hkl => HD.out kl hkl (hl0 kl))
      clear hl0 HD
      go_wp2
      go_ret
      exact ⟨by rw [HFin.out]; rfl, Below.of_grown hgw⟩
    · intro x c kl yd yp w1 cnt1 hkey hlk hv hat hrg1 hlt hg1 hs1 hen
      obtain ⟨l, hcell, HL⟩ := built_at hb (hlh kl hlk) hv hat
      have hgw1 := hgw.andThen hg1 (fun j hj => by cases hj; exact Or.inl (Nat.le_refl _))
      have hc1 := hgw1.cell hcell (by simp)
      have HAT : Hid (∀ zd, D.atKey kl zd = yd) := hat
      have HV : Hid (elemP (.pointer (some ⟨c, 0, none⟩)) = some (yd, yp)) := hv
      clear hat hv hkey
      cases l
      · have HFin : Hid (inB es = true) := HL.out rfl
        go_wp2
        go_ret
        exact ⟨by rw [HFin.out]; rfl, Below.of_grown hgw1⟩
      · go_wp2
        go_roundw
        case rel =>
          refine ⟨_, _, hrg1, hgw1, fun kl' h' => hlh kl' (by simp at h'; exact h'.1), ?_⟩
          intro kl' h1 h2 b hbk
          by_cases he : kl' = kl
          · subst he
            obtain ⟨c', e1, e2⟩ := elemP_inv HV.out
            have e3 := (HAT.out .nil).symm.trans (hbk .nil)
            cases e1
            cases e2
            simp at e3
            have e4 : c = b := by omega
            subst e4
            exact hcell
          · refine HD.out kl' h1 ?_ b hbk
            have hs : kl'.sameKey kl = false := sameKey_ne he
            simpa [hs] using h2
        case measure => rw [hrg1.left_eq, hrg.left_eq]; omega

theorem any_nil {w : World} {u : Nat} (hu : w.cell? ⟨u, 7, none⟩ = some (.map none)) :
    Calls Try.prog 8 #[.pointer (some ⟨u, 0, none⟩)] w fun e w' => e = .returned (.bool false) ∧ Below w.heap.size w w' := by
  have h1 := fun wx => run_range_nilMap (P := Try.prog) wx 31 9 32 Try.underlying31
  have h2 := fun (ty a b : Nat) (s : Array Nat) => run_next_nilMap (P := Try.prog) w ty a b s
  go_enter Try.func8, Try.ntmps8
  go_wp2
  refine wp_loop_rounds 1 ?_
  rw [rounds_succ]
  go_wp2
  go_ret
  exact ⟨rfl, (Below.refl _ _).alloc (Nat.le_refl _) _⟩
end Go.Proofs.Qxb6630183a
