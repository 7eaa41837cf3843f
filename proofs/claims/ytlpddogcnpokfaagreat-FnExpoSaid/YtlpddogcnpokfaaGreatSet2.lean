/- sets without attributes -/
import Derived.Test.YtlpddogcnpokfaaGreatSet1
import Derived.Deep.RegionWith
namespace Go.Proofs.YtlpddogcnpokfaaGreat
open Go.RowKit

/-- what a set's two cells hold behind its making -/
theorem set_new {w w1 : World} {a b : Value} {t : TypeId} (hk : Kept [] (w.alloc (.cells #[a, b] t)) w1) :
    w1.cell? ⟨w.heap.size, 0, none⟩ = some a ∧ w1.frozen? ⟨w.heap.size, 0, none⟩ = false ∧ w1.cell? ⟨w.heap.size, 1, none⟩ = some b ∧ w1.frozen? ⟨w.heap.size, 1, none⟩ = false ∧ w.heap.size < w1.heap.size :=
  ⟨(hk.new (by simp) 0).1, (hk.new (by simp) 0).2.1, (hk.new (by simp) 1).1, (hk.new (by simp) 1).2.1, (hk.new (by simp) 1).2.2⟩

theorem newf56 (w : World) : Calls Tryz.prog 56 #[.slice none 0 0, .nilFunc] w fun e w' => ∃ g, e = .returned (.tuple #[setV g, .slice none 0 0]) ∧ Kept [] w w' ∧ w.heap.size ≤ g ∧ g < w'.heap.size := by
  go_enter Tryz.func56, Tryz.ntmps56
  go_wp2_with fail
  refine (empty86 _).mono ?_; rintro e w1 ⟨g, rfl, hk, hg1, hg2⟩
  obtain ⟨d0, g0, d1, g1, hs⟩ := set_new hk
  have hg1' : w.heap.size ≤ g := by rw [alloc_size] at hg1; omega
  have HK := Lib.hid hk.past
  clear hk hg1
  unfold setV
  go_wp2_with fail
  have hfin := Lib.hid ((HK.out.setCell (p := ⟨w.heap.size, 0, none⟩) (.inr (Nat.le_refl _)) (.int .u64 H0)).setCell (p := ⟨w.heap.size, 1, none⟩) (.inr (Nat.le_refl _)) (.slice (some ⟨g, 0, none⟩) 0 0))
  have hsz := Lib.hid (show g < ((w1.setCell ⟨w.heap.size, 0, none⟩ (.int .u64 H0)).setCell ⟨w.heap.size, 1, none⟩ (.slice (some ⟨g, 0, none⟩) 0 0)).heap.size by simpa using hg2)
  have r0 : ((w1.setCell ⟨w.heap.size, 0, none⟩ (.int .u64 H0)).setCell ⟨w.heap.size, 1, none⟩ (.slice (some ⟨g, 0, none⟩) 0 0)).cell? ⟨w.heap.size, 0, none⟩ = some (.int .u64 H0) := by go_simp
  have r1 : ((w1.setCell ⟨w.heap.size, 0, none⟩ (.int .u64 H0)).setCell ⟨w.heap.size, 1, none⟩ (.slice (some ⟨g, 0, none⟩) 0 0)).cell? ⟨w.heap.size, 1, none⟩ = some (.slice (some ⟨g, 0, none⟩) 0 0) := by go_simp
  generalize ((w1.setCell ⟨w.heap.size, 0, none⟩ (.int .u64 H0)).setCell ⟨w.heap.size, 1, none⟩ (.slice (some ⟨g, 0, none⟩) 0 0)) = W at *
  (try simp only [Exit.inBlock, Exit.then])
  refine bodyPost_ret (by simp [results, Tryz.results56, go_sem, r0, r1]; rfl) rfl ?_
  exact ⟨g, rfl, hfin.out, hg1', hsz.out⟩
theorem newSet45 (w : World) : Calls Tryz.prog 45 #[.slice none 0 0] w fun e w' => ∃ g, e = .returned (setV g) ∧ Kept [] w w' ∧ w.heap.size ≤ g ∧ g < w'.heap.size := by
  go_enter Tryz.func45, Tryz.ntmps45
  go_wp2_with fail
  refine (newf56 _).mono ?_; rintro e w1 ⟨g, rfl, hk, hg1, hg2⟩
  obtain ⟨d0, g0, d1, g1, hs⟩ := set_new hk
  have hne : w.heap.size ≠ w1.heap.size := by omega
  have hg1' : w.heap.size ≤ g := by rw [alloc_size] at hg1; omega
  have HK := Lib.hid hk.past
  clear hk hg1
  unfold setV
  go_wp2_with fail
  have hfin := Lib.hid (((HK.out.setCell (p := ⟨w.heap.size, 0, none⟩) (.inr (Nat.le_refl _)) (.int .u64 H0)).setCell (p := ⟨w.heap.size, 1, none⟩) (.inr (Nat.le_refl _)) (.slice (some ⟨g, 0, none⟩) 0 0)).alloc (.cells #[.int .u64 H0, .slice (some ⟨g, 0, none⟩) 0 0] 99))
  have hsz := Lib.hid (show g < ((((w1.setCell ⟨w.heap.size, 0, none⟩ (.int .u64 H0)).setCell ⟨w.heap.size, 1, none⟩ (.slice (some ⟨g, 0, none⟩) 0 0)).alloc (.cells #[.int .u64 H0, .slice (some ⟨g, 0, none⟩) 0 0] 99))).heap.size by simp; omega)
  have r0 : ((((w1.setCell ⟨w.heap.size, 0, none⟩ (.int .u64 H0)).setCell ⟨w.heap.size, 1, none⟩ (.slice (some ⟨g, 0, none⟩) 0 0)).alloc (.cells #[.int .u64 H0, .slice (some ⟨g, 0, none⟩) 0 0] 99))).cell? ⟨w.heap.size, 0, none⟩ = some (.int .u64 H0) := by go_simp
  have r1 : ((((w1.setCell ⟨w.heap.size, 0, none⟩ (.int .u64 H0)).setCell ⟨w.heap.size, 1, none⟩ (.slice (some ⟨g, 0, none⟩) 0 0)).alloc (.cells #[.int .u64 H0, .slice (some ⟨g, 0, none⟩) 0 0] 99))).cell? ⟨w.heap.size, 1, none⟩ = some (.slice (some ⟨g, 0, none⟩) 0 0) := by go_simp
  generalize (((w1.setCell ⟨w.heap.size, 0, none⟩ (.int .u64 H0)).setCell ⟨w.heap.size, 1, none⟩ (.slice (some ⟨g, 0, none⟩) 0 0)).alloc (.cells #[.int .u64 H0, .slice (some ⟨g, 0, none⟩) 0 0] 99)) = W at *
  (try simp only [Exit.inBlock, Exit.then])
  refine bodyPost_ret (by simp [results, Tryz.results45, go_sem, r0, r1]; rfl) rfl ?_
  exact ⟨g, rfl, hfin.out, hg1', hsz.out⟩

/-- the mark of a set, in memory with its hash -/
def dist : Value := .agg #[.int .u64 H0]
theorem equiv75 (a : Addr) (w : World) (hc : w.cell? a = some (.int .u64 H0)) : Calls Tryz.prog 75 #[.pointer (some a)] w fun e w' => e = .returned dist ∧ w.alloc (.cells #[.int .u64 H0] 176) = w' := by
  have hl := cell_lt hc
  have hne : a.block ≠ w.heap.size := by omega
  unfold H0 at *
  go_enter Tryz.func75, Tryz.ntmps75
  go_wp2_with fail
  have r0 : (w.alloc (.cells #[.int .u64 17241709254077376921] 176)).cell? ⟨w.heap.size, 0, none⟩ = some (.int .u64 17241709254077376921) := by go_simp
  generalize hW : w.alloc (.cells #[.int .u64 17241709254077376921] 176) = W at *
  (try simp only [Exit.inBlock, Exit.then])
  refine bodyPost_ret (by simp [results, Tryz.results75, go_sem, r0]; rfl) rfl ?_
  exact ⟨rfl, rfl⟩

/-- attributes without a filter -/
def lazyV (g : Nat) : Value := .agg #[.int .u64 H0, .slice (some ⟨g, 0, none⟩) 0 0, .int .u64 H0, .int .u64 0, .slice none 0 0, .bool false]
theorem equiv75L (s g : Nat) (w : World) (hs : s + 1 < w.heap.size) (h : w.cell? ⟨s, 0, none⟩ = some (.int .u64 H0) ∧ w.cell? ⟨s, 1, none⟩ = some (.slice (some ⟨g, 0, none⟩) 0 0) ∧ w.cell? ⟨s + 1, 0, none⟩ = some (.int .u64 0) ∧ w.cell? ⟨s + 1, 1, none⟩ = some (.slice none 0 0) ∧ w.cell? ⟨s + 1, 2, none⟩ = some (.int .u64 0) ∧ w.cell? ⟨s + 1, 3, none⟩ = some (.int .u64 0) ∧ w.cell? ⟨s + 1, 4, none⟩ = some (.slice none 0 0) ∧ w.cell? ⟨s + 1, 5, none⟩ = some (.bool false) ∧ w.frozen? ⟨s + 1, 0, none⟩ = false ∧ w.frozen? ⟨s + 1, 1, none⟩ = false ∧ w.frozen? ⟨s + 1, 2, none⟩ = false ∧ w.frozen? ⟨s + 1, 3, none⟩ = false ∧ w.frozen? ⟨s + 1, 4, none⟩ = false ∧ w.frozen? ⟨s + 1, 5, none⟩ = false) :
    Calls Tryz.prog 75 #[.pointer (some ⟨s, 0, none⟩)] w fun e w' => e = .returned (.agg #[.int .u64 H0]) ∧ (w'.cell? ⟨s, 0, none⟩ = some (.int .u64 H0) ∧ w'.cell? ⟨s, 1, none⟩ = some (.slice (some ⟨g, 0, none⟩) 0 0) ∧ w'.cell? ⟨s + 1, 0, none⟩ = some (.int .u64 0) ∧ w'.cell? ⟨s + 1, 1, none⟩ = some (.slice none 0 0) ∧ w'.cell? ⟨s + 1, 2, none⟩ = some (.int .u64 0) ∧ w'.cell? ⟨s + 1, 3, none⟩ = some (.int .u64 0) ∧ w'.cell? ⟨s + 1, 4, none⟩ = some (.slice none 0 0) ∧ w'.cell? ⟨s + 1, 5, none⟩ = some (.bool false) ∧ w'.frozen? ⟨s + 1, 0, none⟩ = false ∧ w'.frozen? ⟨s + 1, 1, none⟩ = false ∧ w'.frozen? ⟨s + 1, 2, none⟩ = false ∧ w'.frozen? ⟨s + 1, 3, none⟩ = false ∧ w'.frozen? ⟨s + 1, 4, none⟩ = false ∧ w'.frozen? ⟨s + 1, 5, none⟩ = false) ∧ Hid (Kept [] w w') := by
  obtain ⟨l0, l1, k0, k1, k2, k3, k4, k5, f0, f1, f2, f3, f4, f5⟩ := h
  refine (equiv75 _ _ l0).mono ?_
  rintro e w' ⟨rfl, rfl⟩
  have n0 : s < w.heap.size := by omega
  have n1 : s ≠ w.heap.size := by omega
  have n2 : s + 1 ≠ w.heap.size := by omega
  refine ⟨rfl, ?_, Lib.hid ((Kept.refl _ _).alloc _)⟩
  refine ⟨?_, ?_, ?_, ?_, ?_, ?_, ?_, ?_, ?_, ?_, ?_, ?_, ?_, ?_⟩ <;> go_simp
set_option maxRecDepth 100000 in
theorem lazy66 (g : Nat) (w : World) : Calls Tryz.prog 66 #[setV g, .nilFunc] w fun e w' => e = .returned (lazyV g) ∧ Kept [] w w' := by
  have hnf : ∀ w, (binOp .eql 85 .nilFunc .nilFunc).run Tryz.prog w = .ok (.bool true) w := fun _ => by kernel_rfl
  obtain ⟨W, hW⟩ : ∃ W, W = ((w.alloc (.cells #[.int .u64 H0, .slice (some ⟨g, 0, none⟩) 0 0] 99)).alloc (.cells #[.int .u64 0, .slice none 0 0, .int .u64 0, .int .u64 0, .slice none 0 0, .bool false] 178)) := ⟨_, rfl⟩
  have hc : W.drew.cell? ⟨w.heap.size, 0, none⟩ = some (.int .u64 H0) ∧ W.drew.cell? ⟨w.heap.size, 1, none⟩ = some (.slice (some ⟨g, 0, none⟩) 0 0) ∧ W.drew.cell? ⟨w.heap.size + 1, 0, none⟩ = some (.int .u64 0) ∧ W.drew.cell? ⟨w.heap.size + 1, 1, none⟩ = some (.slice none 0 0) ∧ W.drew.cell? ⟨w.heap.size + 1, 2, none⟩ = some (.int .u64 0) ∧ W.drew.cell? ⟨w.heap.size + 1, 3, none⟩ = some (.int .u64 0) ∧ W.drew.cell? ⟨w.heap.size + 1, 4, none⟩ = some (.slice none 0 0) ∧ W.drew.cell? ⟨w.heap.size + 1, 5, none⟩ = some (.bool false) ∧ W.drew.frozen? ⟨w.heap.size + 1, 0, none⟩ = false ∧ W.drew.frozen? ⟨w.heap.size + 1, 1, none⟩ = false ∧ W.drew.frozen? ⟨w.heap.size + 1, 2, none⟩ = false ∧ W.drew.frozen? ⟨w.heap.size + 1, 3, none⟩ = false ∧ W.drew.frozen? ⟨w.heap.size + 1, 4, none⟩ = false ∧ W.drew.frozen? ⟨w.heap.size + 1, 5, none⟩ = false := by
    subst hW
    refine ⟨?_, ?_, ?_, ?_, ?_, ?_, ?_, ?_, ?_, ?_, ?_, ?_, ?_, ?_⟩ <;> go_simp
  have HK := Lib.hid (show Kept [] w W.drew by subst hW; exact (((Kept.refl _ _).alloc _).alloc _).dr ⟨1, rfl⟩)
  have hsz := Lib.hid (show w.heap.size + 1 < W.drew.heap.size by subst hW; show _ < ((w.alloc _).alloc _).heap.size; simp)
  obtain ⟨l0, l1, k0, k1, k2, k3, k4, k5, f0, f1, f2, f3, f4, f5⟩ := hc
  unfold setV
  go_enter Tryz.func66, Tryz.ntmps66
  go_wp2_with fail
  rw [← hW]
  clear hW
  go_region_with (go_at_call 75; refine (equiv75L _ g _ hsz.out ⟨l0, l1, k0, k1, k2, k3, k4, k5, f0, f1, f2, f3, f4, f5⟩).mono ?_; rintro e w' ⟨rfl, ⟨l0, l1, k0, k1, k2, k3, k4, k5, f0, f1, f2, f3, f4, f5⟩, hk⟩)
  all_goals
    have hfin := Lib.hid (((((((HK.out.trans hk.out).setCell (p := ⟨w.heap.size + 1, 0, none⟩) (.inr (Nat.le_succ _)) (.int .u64 H0)).setCell (p := ⟨w.heap.size + 1, 1, none⟩) (.inr (Nat.le_succ _)) (.slice (some ⟨g, 0, none⟩) 0 0)).setCell (p := ⟨w.heap.size + 1, 2, none⟩) (.inr (Nat.le_succ _)) (.int .u64 H0)).setCell (p := ⟨w.heap.size + 1, 3, none⟩) (.inr (Nat.le_succ _)) (.int .u64 0)).setCell (p := ⟨w.heap.size + 1, 4, none⟩) (.inr (Nat.le_succ _)) (.slice none 0 0)).setCell (p := ⟨w.heap.size + 1, 5, none⟩) (.inr (Nat.le_succ _)) (.bool false))
    have r0 : ((((((w'.setCell ⟨w.heap.size + 1, 0, none⟩ (.int .u64 H0)).setCell ⟨w.heap.size + 1, 1, none⟩ (.slice (some ⟨g, 0, none⟩) 0 0)).setCell ⟨w.heap.size + 1, 2, none⟩ (.int .u64 H0)).setCell ⟨w.heap.size + 1, 3, none⟩ (.int .u64 0)).setCell ⟨w.heap.size + 1, 4, none⟩ (.slice none 0 0)).setCell ⟨w.heap.size + 1, 5, none⟩ (.bool false)).cell? ⟨w.heap.size + 1, 0, none⟩ = some (.int .u64 H0) := by go_simp
    have r1 : ((((((w'.setCell ⟨w.heap.size + 1, 0, none⟩ (.int .u64 H0)).setCell ⟨w.heap.size + 1, 1, none⟩ (.slice (some ⟨g, 0, none⟩) 0 0)).setCell ⟨w.heap.size + 1, 2, none⟩ (.int .u64 H0)).setCell ⟨w.heap.size + 1, 3, none⟩ (.int .u64 0)).setCell ⟨w.heap.size + 1, 4, none⟩ (.slice none 0 0)).setCell ⟨w.heap.size + 1, 5, none⟩ (.bool false)).cell? ⟨w.heap.size + 1, 1, none⟩ = some (.slice (some ⟨g, 0, none⟩) 0 0) := by go_simp
    have r2 : ((((((w'.setCell ⟨w.heap.size + 1, 0, none⟩ (.int .u64 H0)).setCell ⟨w.heap.size + 1, 1, none⟩ (.slice (some ⟨g, 0, none⟩) 0 0)).setCell ⟨w.heap.size + 1, 2, none⟩ (.int .u64 H0)).setCell ⟨w.heap.size + 1, 3, none⟩ (.int .u64 0)).setCell ⟨w.heap.size + 1, 4, none⟩ (.slice none 0 0)).setCell ⟨w.heap.size + 1, 5, none⟩ (.bool false)).cell? ⟨w.heap.size + 1, 2, none⟩ = some (.int .u64 H0) := by go_simp
    have r3 : ((((((w'.setCell ⟨w.heap.size + 1, 0, none⟩ (.int .u64 H0)).setCell ⟨w.heap.size + 1, 1, none⟩ (.slice (some ⟨g, 0, none⟩) 0 0)).setCell ⟨w.heap.size + 1, 2, none⟩ (.int .u64 H0)).setCell ⟨w.heap.size + 1, 3, none⟩ (.int .u64 0)).setCell ⟨w.heap.size + 1, 4, none⟩ (.slice none 0 0)).setCell ⟨w.heap.size + 1, 5, none⟩ (.bool false)).cell? ⟨w.heap.size + 1, 3, none⟩ = some (.int .u64 0) := by go_simp
    have r4 : ((((((w'.setCell ⟨w.heap.size + 1, 0, none⟩ (.int .u64 H0)).setCell ⟨w.heap.size + 1, 1, none⟩ (.slice (some ⟨g, 0, none⟩) 0 0)).setCell ⟨w.heap.size + 1, 2, none⟩ (.int .u64 H0)).setCell ⟨w.heap.size + 1, 3, none⟩ (.int .u64 0)).setCell ⟨w.heap.size + 1, 4, none⟩ (.slice none 0 0)).setCell ⟨w.heap.size + 1, 5, none⟩ (.bool false)).cell? ⟨w.heap.size + 1, 4, none⟩ = some (.slice none 0 0) := by go_simp
    have r5 : ((((((w'.setCell ⟨w.heap.size + 1, 0, none⟩ (.int .u64 H0)).setCell ⟨w.heap.size + 1, 1, none⟩ (.slice (some ⟨g, 0, none⟩) 0 0)).setCell ⟨w.heap.size + 1, 2, none⟩ (.int .u64 H0)).setCell ⟨w.heap.size + 1, 3, none⟩ (.int .u64 0)).setCell ⟨w.heap.size + 1, 4, none⟩ (.slice none 0 0)).setCell ⟨w.heap.size + 1, 5, none⟩ (.bool false)).cell? ⟨w.heap.size + 1, 5, none⟩ = some (.bool false) := by go_simp
    generalize ((((((w'.setCell ⟨w.heap.size + 1, 0, none⟩ (.int .u64 H0)).setCell ⟨w.heap.size + 1, 1, none⟩ (.slice (some ⟨g, 0, none⟩) 0 0)).setCell ⟨w.heap.size + 1, 2, none⟩ (.int .u64 H0)).setCell ⟨w.heap.size + 1, 3, none⟩ (.int .u64 0)).setCell ⟨w.heap.size + 1, 4, none⟩ (.slice none 0 0)).setCell ⟨w.heap.size + 1, 5, none⟩ (.bool false)) = X at *
    go_wp2_with fail
    (try simp only [Exit.inBlock, Exit.then])
    refine bodyPost_ret (by simp [results, Tryz.results66, go_sem, r0, r1, r2, r3, r4, r5]; rfl) rfl ?_
    exact ⟨rfl, hfin.out⟩
end Go.Proofs.YtlpddogcnpokfaaGreat
