import Derived.Test.Qxb6630073aRows
import Derived.WalkKit
import Derived.BigRegion
import Derived.Deep.QuietTactic
import Derived.BigQuiet
import Derived.RegionTactic
import Derived.Deep.RegionLaw
import Derived.Deep.AppendLies
import Derived.Deep.OwnRows
import Derived.ChangeAlike
namespace Go.Proofs.Qxb6630073a
open Go.RowKit
set_option linter.unusedVariables false
set_option linter.unusedSimpArgs false

theorem Try.info5 : (Try.prog.info? 5).map (fun i => (i.zero, i.size, i.bytes)) = some (some (.int .u8 0), 1, 1) := by kernel_rfl
theorem Try.info22 : (Try.prog.info? 22).map (fun i => (i.zero, i.size, i.bytes)) = some (some (.slice none 0 0), 1, 24) := by kernel_rfl

theorem make_row (n : Nat) (hn : n ≤ 4000000) (w : World) :
    (Instr.makeSlice 22 (.int .i64 0) (.int .i64 (n : Int))).run Try.prog w = .ok (.slice (some ⟨w.heap.size, 0, none⟩) 0 n) (w.alloc (.cells (madeCells #[.int .u8 0] n) 5)) := by
  obtain ⟨i, hi, hz0, hz1, hz2⟩ := info_parts Try.info5
  have hr := run_make (P := Try.prog) w 22 5 i (.int .u8 0) Try.underlying22 hi hz0 .i64 .i64 0 n (Int.le_refl _) (by omega) (by rw [hz2]; omega) (by omega)
  simp only [Int.toNat_natCast, Int.toNat_zero, hz1, Nat.mul_one, Value.cells] at hr
  exact hr

/-- The new piece's own block. -/
def fresh (n : Nat) : Obj := .cells (madeCells #[.int .u8 0] n) 5
/-- The header of a piece. -/
def hd (b l c : Nat) : Value := .slice (some ⟨b, 0, none⟩) l c
/-- The world as it stands when a new piece is appended. -/
def atApp (w : World) (k n : Nat) : World := ((w.drewN k).alloc (fresh n)).alloc (.cells #[hd w.heap.size 0 n] 22)

theorem size_atApp (w : World) (k n : Nat) : (atApp w k n).heap.size = w.heap.size + 2 := by simp [atApp]
theorem base_atApp {B : Nat} (w : World) (k n : Nat) (h : B ≤ w.heap.size) : B ≤ (atApp w k n).heap.size := by rw [size_atApp]; omega
theorem old_atApp (w : World) (k n j : Nat) (h : j < w.heap.size) : (atApp w k n).heap[j]? = w.heap[j]? := by
  unfold atApp
  rw [Below.heap_alloc _ _ _ (by simp; omega), Below.heap_alloc _ _ _ (by simpa using h)]
  rfl
theorem new_atApp (w : World) (k n : Nat) : (atApp w k n).heap[w.heap.size]? = some (fresh n) := by
  unfold atApp
  rw [Below.heap_alloc _ _ _ (by simp)]
  exact heap_alloc_new (w.drewN k) _
theorem news_atApp (w : World) (k n : Nat) : ∀ j u, [hd w.heap.size 0 n][j]? = some u → (atApp w k n).cell? ((⟨w.heap.size + 1, 0, none⟩ : Addr).add j) = some u := by
  have h : (atApp w k n).heap[w.heap.size + 1]? = some (.cells #[hd w.heap.size 0 n] 22) := by
    unfold atApp
    have := heap_alloc_new ((w.drewN k).alloc (fresh n)) (.cells #[hd w.heap.size 0 n] 22)
    simpa using this
  exact World.news_of_block h
theorem own_atApp {w : World} {B m : Nat} {v : Value} {xs : List Value} (h : w.ownsRow B 22 1 v m xs) (k n : Nat) : (atApp w k n).ownsRow B 22 1 v m xs :=
  World.ownsRow.alloc (World.ownsRow.alloc (w := w.drewN k) h _) _
theorem keep_atApp {w w1 : World} {k n P : Nat} {v : Value} (hg : (atApp w k n).grownBy w1 v.ownBlock) (hP : P < w.heap.size) (hv : ¬ v.ownBlock = some P) (o : Nat) :
    w1.cell? ⟨P, o, none⟩ = w.cell? ⟨P, o, none⟩ ∧ w1.frozen? ⟨P, o, none⟩ = w.frozen? ⟨P, o, none⟩ := by
  have h : w1.heap[P]? = w.heap[P]? := (hg.block P (by rw [size_atApp]; omega) (fun e => hv e.symm)).trans (old_atApp w k n P hP)
  exact ⟨World.cell?_of_block (a := ⟨P, o, none⟩) h, World.frozen?_of_block (a := ⟨P, o, none⟩) h⟩

/-- What Grow leaves. -/
structure Grew (B P n m : Nat) (v : Value) (xs : List Value) (w w' : World) : Prop where
  ex : ∃ k g cap w1, w' = w1.setCell ⟨P, 0, none⟩ (.slice (some ⟨g, 0, none⟩) (m + 1) cap) ∧
    w1.ownsRow B 22 1 (.slice (some ⟨g, 0, none⟩) (m + 1) cap) (m + 1) (xs ++ [hd w.heap.size 0 n]) ∧ (atApp w k n).grownBy w1 v.ownBlock ∧ (v.ownBlock = some g ∨ g = w.heap.size + 2) ∧ g < w1.heap.size

set_option maxHeartbeats 1000000 in
theorem grow_nil (B P n : Nat) (w : World)
    (hP0 : w.cell? ⟨P, 0, none⟩ = some (.slice none 0 0))
    (f0 : w.frozen? ⟨P, 0, none⟩ = false)
    (hBP : B ≤ P) (hPs : P < w.heap.size) (hn : n ≤ 4000000) :
    Calls Try.prog 6 #[.pointer (some ⟨P, 0, none⟩), .int .i64 n] w fun e w' => e = .returned (.tuple #[]) ∧ Grew B P n 0 (.slice none 0 0) [] w w' := by
  obtain ⟨i0, hi, hz0, hz1, hz2⟩ := info_parts Try.info22
  have hmk := make_row n hn
  have hown := World.ownsRow_nil w B 22 1
  have hcA : ∀ k o, ((w.drewN k).alloc o).cell? ⟨P, 0, none⟩ = some (.slice none 0 0) := fun k o => (World.cell?_alloc_lt (w.drewN k) o _ hPs).trans hP0
  go_enter Try.func6, Try.ntmps6
  go_wp2
  go_quiet (fail)
  go_wp2
  go_region_law ((refine step_append_lies _ (by rfl) (.tmp 38) (.tmp 41) 24 (by rfl) B 22 i0 (.slice none 0 0) 1 24 Try.underlying24 hi hz0 hz1 hz2 rfl (by decide) (.slice none 0 0) 0 [] (by simp [Act.eval, Act.put]) (own_atApp hown _ n) ⟨w.heap.size + 1, 0, none⟩ 1 1 [hd w.heap.size 0 n] (by simp [Act.eval, Act.put]) rfl (news_atApp w _ n) (by simp [hd, Value.oneCell']) (by decide) (by decide) (by decide) (base_atApp w _ n (by omega)) (w.heap.size + 2) (size_atApp w _ n) ?_; intro g cap w1 hown1 hgrow hat hlt; have hk := keep_atApp hgrow hPs (by simp [Value.ownBlock]) 0; rw [hP0, f0] at hk; obtain ⟨hk1, hk2⟩ := hk))
  all_goals (go_end0; exact ⟨rfl, ⟨_, g, cap, w1, rfl, hown1, hgrow, hat, hlt⟩⟩)

set_option maxHeartbeats 1000000 in
theorem grow_some (B P n m g0 cap0 b l c : Nat) (xs : List Value) (w : World)
    (hP0 : w.cell? ⟨P, 0, none⟩ = some (.slice (some ⟨g0, 0, none⟩) (m + 1) cap0))
    (f0 : w.frozen? ⟨P, 0, none⟩ = false)
    (hown : w.ownsRow B 22 1 (.slice (some ⟨g0, 0, none⟩) (m + 1) cap0) (m + 1) xs)
    (hg : w.cell? ⟨g0, m, none⟩ = some (.slice (some ⟨b, 0, none⟩) l c)) (hlc : l ≤ c) (hc : c ≤ 4000000) (hfew : c < l + n)
    (hne : ¬ g0 = P) (hm : m ≤ 4000000)
    (hBP : B ≤ P) (hPs : P < w.heap.size) (hn : n ≤ 4000000) :
    Calls Try.prog 6 #[.pointer (some ⟨P, 0, none⟩), .int .i64 n] w fun e w' => e = .returned (.tuple #[]) ∧ Grew B P n (m + 1) (.slice (some ⟨g0, 0, none⟩) (m + 1) cap0) xs w w' := by
  obtain ⟨i0, hi, hz0, hz1, hz2⟩ := info_parts Try.info22
  have hmk := make_row n hn
  have hcA : ∀ k o, ((w.drewN k).alloc o).cell? ⟨P, 0, none⟩ = some (.slice (some ⟨g0, 0, none⟩) (m + 1) cap0) := fun k o => (World.cell?_alloc_lt (w.drewN k) o _ hPs).trans hP0
  have hd1 : decide ((0 : Int) ≤ (m : Int)) = true := by simp
  have hd2 : decide ((n : Int) ≤ (c : Int) - (l : Int)) = false := by simp; omega
  go_enter Try.func6, Try.ntmps6
  go_wp2
  go_quiet (fail)
  go_wp2
  go_region_law ((refine step_append_lies _ (by rfl) (.tmp 38) (.tmp 41) 24 (by rfl) B 22 i0 (.slice none 0 0) 1 24 Try.underlying24 hi hz0 hz1 hz2 rfl (by decide) (.slice (some ⟨g0, 0, none⟩) (m + 1) cap0) (m + 1) xs (by simp [Act.eval, Act.put]) (own_atApp hown _ n) ⟨w.heap.size + 1, 0, none⟩ 1 1 [hd w.heap.size 0 n] (by simp [Act.eval, Act.put]) rfl (news_atApp w _ n) (by simp [hd, Value.oneCell']) (by decide) (by unfold maxLen; omega) (by omega) (base_atApp w _ n (by omega)) (w.heap.size + 2) (size_atApp w _ n) ?_; intro g cap w1 hown1 hgrow hat hlt; have hk := keep_atApp hgrow hPs (by simp [Value.ownBlock]; exact hne) 0; rw [hP0, f0] at hk; obtain ⟨hk1, hk2⟩ := hk))
  all_goals (go_end0; exact ⟨rfl, ⟨_, g, cap, w1, rfl, hown1, hgrow, hat, hlt⟩⟩)
end Go.Proofs.Qxb6630073a
