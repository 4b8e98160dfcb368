import Derived.Test.Qxb6630183aBase
import Derived.Maps.RangeWalk
import Derived.Maps.OwnOps
import Derived.WalkSpells
namespace Go.Proofs.Qxb6630183a
open Go.RowKit Go.Maps
open Go.WideMaps (keyOf_string_mk)
set_option linter.unusedVariables false
set_option linter.unusedSimpArgs false

/-- How an element of the map reads: a pointer, as the number of its block. -/
def elemP (v : Value) : Option (DataW Unit × List MemPlace) :=
  match v with
  | .pointer (some ⟨b, 0, none⟩) => some (.lit (.int .i64 b), [])
  | _ => none
theorem elemP_mk (b : Nat) : elemP (.pointer (some ⟨b, 0, none⟩)) = some (.lit (.int .i64 b), []) := rfl
theorem elemP_inv {v : Value} {y : DataW Unit × List MemPlace} (h : elemP v = some y) : ∃ b : Nat, v = .pointer (some ⟨b, 0, none⟩) ∧ y = (.lit (.int .i64 b), []) := by
  unfold elemP at h
  split at h
  · exact ⟨_, rfl, (Option.some.inj h).symm⟩
  · cases h

theorem law9 : Keyed Try.prog 9 := string_keyed Try.underlying9
/-- What a key reads as. -/
def key (s : ByteArray) : Lit := .string s.data.toList
theorem key_inj {s t : ByteArray} (h : key s = key t) : s = t := by
  unfold key at h
  have h1 : s.data.toList = t.data.toList := by injection h
  cases s; cases t
  simp only [ByteArray.mk.injEq]
  exact Array.toList_inj.1 h1

/-- The map at block B holds, at each id, the pointer of the last entry that bears it. -/
structure Built (w : World) (B : Nat) (es : List (ByteArray × Bool)) (D : DataW Unit) : Prop where
  own : w.ownsMap Try.prog 9 elemP B es.length D
  all : ∀ (i : Nat) (x : ByteArray × Bool), es[i]? = some x → Maps.has D (key x.1) = true
  who : ∀ kl, Maps.has D kl = true → ∃ (i : Nat) (x : ByteArray × Bool) (b : Nat), es[i]? = some x ∧ kl = key x.1 ∧ (∀ (j : Nat) (y : ByteArray × Bool), i < j → es[j]? = some y → ¬ y.1 = x.1) ∧ (∀ zd, D.atKey kl zd = .lit (.int .i64 b)) ∧ B < b ∧ w.cell? ⟨b, 2, none⟩ = some (.bool x.2)

theorem Built.start (w : World) : Built (w.alloc (.map #[] 0)) w.heap.size [] (.map []) :=
  ⟨World.ownsMap_made w Try.prog 9 elemP, fun i x h => by simp at h, fun kl h => by simp [Maps.has] at h⟩

theorem key_isKey (s : ByteArray) : WideAt.IsKeyLit (key s) := by simp [WideAt.IsKeyLit, key]

/-- One entry more. -/
theorem Built.step {wr w2 : World} {B : Nat} {xs : List (ByteArray × Bool)} {D : DataW Unit} {s : ByteArray} {l : Bool} (hb : Built wr B xs D)
    (hown2 : w2.ownsMap Try.prog 9 elemP B (xs.length + 1) (D.put (key s) (.lit (.int .i64 wr.heap.size))))
    (hgr2 : ((wr.alloc (.cells #[.map none, .map none, .bool l] 36)).drew).grownBy w2 (some B)) :
    Built w2 B (xs ++ [(s, l)]) (D.put (key s) (.lit (.int .i64 wr.heap.size))) := by
  have hB : B < wr.heap.size := hb.own.lt
  have hD : IsMap D := by obtain ⟨es, _, _, _, _, hD⟩ := hb.own; exact ⟨_, hD⟩
  have hnew : w2.cell? ⟨wr.heap.size, 2, none⟩ = some (.bool l) := by
    have h1 : w2.heap[wr.heap.size]? = some (.cells #[.map none, .map none, .bool l] 36) :=
      (hgr2.block wr.heap.size (by show _ < (wr.alloc _).heap.size; simp) (by simp; omega)).trans (heap_alloc_new wr _)
    rw [cell_of_row _ _ _ _ _ _ h1]; rfl
  have hold : ∀ b, ¬ b = B → b < wr.heap.size → w2.cell? ⟨b, 2, none⟩ = wr.cell? ⟨b, 2, none⟩ := fun b h1 h2 =>
    World.cell?_of_block (a := ⟨b, 2, none⟩) ((hgr2.block b (by show _ < (wr.alloc _).heap.size; simp; omega) (by simp [h1])).trans (Below.heap_alloc wr _ b h2))
  refine ⟨by simpa using hown2, ?_, ?_⟩
  · intro i x hx
    by_cases he : key x.1 = key s
    · rw [he]; exact has_put_same hD (key_isKey s) _
    · rw [has_put_other he]
      rcases Nat.lt_or_ge i xs.length with hi | hi
      · rw [List.getElem?_append_left hi] at hx
        exact hb.all i x hx
      · rw [List.getElem?_append_right hi] at hx
        have h0 : i - xs.length = 0 := by have := (List.getElem?_eq_some_iff.1 hx).1; simp at this; omega
        rw [h0] at hx
        simp at hx
        subst hx
        exact absurd rfl he
  · intro kl hkl
    by_cases he : kl = key s
    · subst he
      refine ⟨xs.length, (s, l), wr.heap.size, by simp, rfl, ?_, fun zd => atKey_put_same hD (key_isKey s) _ _, hB, hnew⟩
      intro j y hj hy
      have := (List.getElem?_eq_some_iff.1 hy).1
      simp at this; omega
    · rw [has_put_other he] at hkl
      obtain ⟨i, x, b, h1, h2, h3, h4, h5, h6⟩ := hb.who kl hkl
      have hi : i < xs.length := (List.getElem?_eq_some_iff.1 h1).1
      refine ⟨i, x, b, by rw [List.getElem?_append_left hi]; exact h1, h2, ?_, fun zd => by rw [atKey_put_other he]; exact h4 zd, h5, ?_⟩
      · intro j y hj hy
        rcases Nat.lt_or_ge j xs.length with hjl | hjl
        · rw [List.getElem?_append_left hjl] at hy
          exact h3 j y hj hy
        · rw [List.getElem?_append_right hjl] at hy
          have h0 : j - xs.length = 0 := by have := (List.getElem?_eq_some_iff.1 hy).1; simp at this; omega
          rw [h0] at hy
          simp at hy
          subst hy
          intro e
          exact he (by rw [h2, ← e])
      · rw [hold b (by omega) (World.block_lt_of_cell? wr ⟨b, 2, none⟩ h6)]; exact h6

theorem Built.kept {w w' : World} {B : Nat} {es : List (ByteArray × Bool)} {D : DataW Unit} (h : Built w B es D) (hg : w.grownBy w' none) : Built w' B es D := by
  refine ⟨h.own.kept hg (by simp), h.all, fun kl hkl => ?_⟩
  obtain ⟨i, x, b, h1, h2, h3, h4, h5, h6⟩ := h.who kl hkl
  exact ⟨i, x, b, h1, h2, h3, h4, h5, hg.cell h6 (by simp)⟩

theorem view_cell (w : World) (m : Value) : (w.alloc (.cells #[.bool false, .int .i64 0, .bool false, .string ⟨#[]⟩, .pointer none, .pointer none, .pointer none, m, .int .i64 0, .slice none 0 0, .slice none 0 0, .bool false, .map none, .bool false, .string ⟨#[]⟩, .slice none 0 0] 43)).cell? ⟨w.heap.size, 7, none⟩ = some m := by
  rw [cell_of_row _ _ _ _ _ _ (heap_alloc_new w _)]; rfl

set_option maxHeartbeats 1000000 in
theorem build_some {w : World} {len cap : Nat} {x : Addr} {es : List (ByteArray × Bool)} (h : Ents w w.heap.size (some x) len cap es) (hl : len ≤ 4097) :
    Calls Try.prog 7 #[.slice (some x) len cap] w fun e w' => ∃ u D, e = .returned (.pointer (some ⟨u, 0, none⟩)) ∧ w'.cell? ⟨u, 7, none⟩ = some (.map (some w.heap.size)) ∧ Built w' w.heap.size es D ∧ Below w.heap.size w w' := by
  have hmm := @run_makeMap Try.prog
  have hnn : ∀ (wx : World), (binOp .neq 22 (.slice (some x) len cap) (.slice none 0 0)).run Try.prog wx = .ok (.bool true) wx := fun wx => by kernel_rfl
  go_enter Try.func7, Try.ntmps7
  go_wp2
  go_loopw [4] (fun i wr => ∃ (k : Nat) (D : DataW Unit), k ≤ len ∧ i = .int .i64 k ∧ Built wr w.heap.size (es.take k) D ∧ Below w.heap.size w wr) (fun i _ => len - (intOf i).toNat)
  case atStart => exact ⟨0, .map [], Nat.zero_le _, rfl, Built.start w, (Below.refl _ _).alloc (Nat.le_refl _) _⟩
  case round =>
    obtain ⟨k, D, hk, rfl, hbt, hbel⟩ := hrel
    by_cases hlt : k < len
    · obtain ⟨xb, xo, s, l, hx, hes, h1, h2, h3, h4, h5⟩ := (h.carry hbel (Nat.le_refl _)).at hlt
      cases hx
      have hxb : xb < wr.heap.size := World.block_lt_of_cell? wr ⟨xb, xo + k * 2, none⟩ h1
      have HE : Hid (es[k]? = some (s, l)) := hes
      clear hes
      have hkl : (es.take k).length = k := by have := h.1; simp; omega
      have hown := hbt.own
      rw [hkl] at hown
      obtain ⟨w2, hrun, hown2, hgr2⟩ := ((hown.alloc (.cells #[.map none, .map none, .bool l] 36)).drew).update law9 Try.underlying31 (by unfold maxLen; omega) (keyOf_string_mk Try.underlying9 h3) (elemP_mk wr.heap.size)
      unfold maxLen at h3 h5
      go_wp2
      go_region
      all_goals
        go_wp2
        go_roundw
        case rel =>
          refine ⟨k + 1, D.put (key s) (.lit (.int .i64 wr.heap.size)), by omega, by go_num, ?_, ?_⟩
          · rw [List.take_succ_eq_append_getElem (by have := h.1; omega), show es[k]'(by have := h.1; omega) = (s, l) from by have := HE.out; rw [List.getElem?_eq_getElem (by have := h.1; omega)] at this; exact Option.some.inj this]
            exact hbt.step (by rw [hkl]; exact hown2) hgr2
          · exact ((hbel.alloc hbel.size _).drew).grown hgr2 (by have := hbel.size; show _ ≤ (wr.alloc _).heap.size; simp; omega) (fun j hj => by cases hj; exact Nat.le_refl _)
        case measure => simp [intOf]; omega
    · have hkl : len = k := by omega
      subst hkl
      rw [List.take_of_length_le (by have := h.1; omega)] at hbt
      go_wp2
      go_ret
      exact ⟨_, D, rfl, view_cell wr _, hbt.kept (World.grownBy_alloc wr _ none), hbel.alloc hbel.size _⟩

set_option maxHeartbeats 1000000 in
theorem build_nil (w : World) :
    Calls Try.prog 7 #[.slice none 0 0] w fun e w' => ∃ u, e = .returned (.pointer (some ⟨u, 0, none⟩)) ∧ w'.cell? ⟨u, 7, none⟩ = some (.map none) ∧ Below w.heap.size w w' := by
  have hnn : ∀ (wx : World), (binOp .neq 22 (.slice none 0 0) (.slice none 0 0)).run Try.prog wx = .ok (.bool false) wx := fun wx => by kernel_rfl
  go_enter Try.func7, Try.ntmps7
  go_wp2
  go_ret
  exact ⟨_, rfl, view_cell w _, (Below.refl _ _).alloc (Nat.le_refl _) _⟩
end Go.Proofs.Qxb6630183a
