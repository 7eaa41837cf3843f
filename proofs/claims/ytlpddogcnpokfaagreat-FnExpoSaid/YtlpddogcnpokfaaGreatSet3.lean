/- a new point -/
import Derived.Test.YtlpddogcnpokfaaGreatSet2
import Derived.Deep.RegionWith
namespace Go.Proofs.YtlpddogcnpokfaaGreat
open Go.RowKit
theorem dist70 (g : Nat) (w : World) : Calls Tryz.prog 70 #[lazyV g] w fun e w' => e = .returned (.agg #[.int .u64 H0]) ∧ Kept [] w w' := by
  unfold lazyV
  go_enter Tryz.func70, Tryz.ntmps70
  go_wp2_with fail
  have hfin := Lib.hid (((Kept.refl [] w).alloc (.cells #[.int .u64 H0, .slice (some ⟨g, 0, none⟩) 0 0, .int .u64 H0, .int .u64 0, .slice none 0 0, .bool false] 178)).alloc (.cells #[.int .u64 H0] 176))
  have r0 : ((w.alloc (.cells #[.int .u64 H0, .slice (some ⟨g, 0, none⟩) 0 0, .int .u64 H0, .int .u64 0, .slice none 0 0, .bool false] 178)).alloc (.cells #[.int .u64 H0] 176)).cell? ⟨w.heap.size + 1, 0, none⟩ = some (.int .u64 H0) := by go_simp
  generalize ((w.alloc (.cells #[.int .u64 H0, .slice (some ⟨g, 0, none⟩) 0 0, .int .u64 H0, .int .u64 0, .slice none 0 0, .bool false] 178)).alloc (.cells #[.int .u64 H0] 176)) = X at *
  (try simp only [Exit.inBlock, Exit.then])
  refine bodyPost_ret (by simp [results, Tryz.results70, go_sem, r0]; rfl) rfl ?_
  exact ⟨rfl, hfin.out⟩
set_option maxRecDepth 100000 in
theorem set73 (g : Nat) (w : World) : Calls Tryz.prog 73 #[lazyV g] w fun e w' => e = .returned (setV g) ∧ Kept [] w w' := by
  unfold lazyV
  go_enter Tryz.func73, Tryz.ntmps73
  go_wp2_with fail
  have hfin := Lib.hid (((Kept.refl [] w).alloc (.cells #[.int .u64 H0, .slice (some ⟨g, 0, none⟩) 0 0, .int .u64 H0, .int .u64 0, .slice none 0 0, .bool false] 178)).alloc (.cells #[.int .u64 H0, .slice (some ⟨g, 0, none⟩) 0 0] 99))
  have r0 : ((w.alloc (.cells #[.int .u64 H0, .slice (some ⟨g, 0, none⟩) 0 0, .int .u64 H0, .int .u64 0, .slice none 0 0, .bool false] 178)).alloc (.cells #[.int .u64 H0, .slice (some ⟨g, 0, none⟩) 0 0] 99)).cell? ⟨w.heap.size + 1, 0, none⟩ = some (.int .u64 H0) := by go_simp
  have r1 : ((w.alloc (.cells #[.int .u64 H0, .slice (some ⟨g, 0, none⟩) 0 0, .int .u64 H0, .int .u64 0, .slice none 0 0, .bool false] 178)).alloc (.cells #[.int .u64 H0, .slice (some ⟨g, 0, none⟩) 0 0] 99)).cell? ⟨w.heap.size + 1, 1, none⟩ = some (.slice (some ⟨g, 0, none⟩) 0 0) := by go_simp
  generalize ((w.alloc (.cells #[.int .u64 H0, .slice (some ⟨g, 0, none⟩) 0 0, .int .u64 H0, .int .u64 0, .slice none 0 0, .bool false] 178)).alloc (.cells #[.int .u64 H0, .slice (some ⟨g, 0, none⟩) 0 0] 99)) = X at *
  (try simp only [Exit.inBlock, Exit.then])
  refine bodyPost_ret (by simp [results, Tryz.results73, go_sem, r0, r1]; rfl) rfl ?_
  exact ⟨rfl, hfin.out⟩
theorem store112 (a : Addr) (v0 : Value) (n : Int) (w : World) (hc : w.cell? a = some v0) (hf : w.frozen? a = false) :
    Calls Tryz.prog 112 #[.pointer (some a), .int .i32 n] w fun e w' => e = .returned (.tuple #[]) ∧ w.setCell a (.int .i32 n) = w' := by
  go_enter Tryz.func112, Tryz.ntmps112
  go_wp2
  go_end0
  exact ⟨rfl, rfl⟩

theorem now64L (s g : Nat) (w : World) (h : w.cell? ⟨s, 0, none⟩ = some (.int .u64 H0) ∧ w.cell? ⟨s, 1, none⟩ = some (.slice (some ⟨g, 0, none⟩) 0 0)) :
    Calls Tryz.prog 64 #[] w fun e w' => e = .returned (.agg #[.int .i64 0]) ∧ (w'.cell? ⟨s, 0, none⟩ = some (.int .u64 H0) ∧ w'.cell? ⟨s, 1, none⟩ = some (.slice (some ⟨g, 0, none⟩) 0 0)) ∧ Hid (Kept [] w w') := by
  refine (now64 w).mono ?_
  rintro e w' ⟨rfl, hk⟩
  exact ⟨rfl, ⟨(hk.cell (cell_lt h.1) (by simp)).trans h.1, (hk.cell (cell_lt h.2) (by simp)).trans h.2⟩, Lib.hid hk⟩
/-- a new point -/
def dpCells (g : Nat) (ms S : Int) : Array Value := #[.int .u64 H0, .slice (some ⟨g, 0, none⟩) 0 0, .int .u64 0, .int .u64 0, .bool false, .int .u64 0, .int .i64 0, .int .i64 ms, .bool false, .bool false, .int .i32 S, .int .i32 0, .slice none 0 0, .int .i32 0, .slice none 0 0, .int .u64 0, .int .i64 0]
set_option maxRecDepth 100000 in
theorem newDp95 (g : Nat) (ms S : Int) (w : World) : Calls Tryz.prog 95 #[setV g, .int .i64 ms, .int .i32 S, .bool false, .bool false] w fun e w' =>
    ∃ d, e = .returned (.pointer (some ⟨d, 0, none⟩)) ∧ w.heap.size ≤ d ∧ Kept [] w w' ∧ w'.heap[d]? = some (.cells (dpCells g ms S) 209 (0, 0)) := by
  obtain ⟨W, hW⟩ : ∃ W, W = w.alloc (.cells #[.int .u64 H0, .slice (some ⟨g, 0, none⟩) 0 0] 99) := ⟨_, rfl⟩
  have hc : W.drew.cell? ⟨w.heap.size, 0, none⟩ = some (.int .u64 H0) ∧ W.drew.cell? ⟨w.heap.size, 1, none⟩ = some (.slice (some ⟨g, 0, none⟩) 0 0) := by
    subst hW
    refine ⟨?_, ?_⟩ <;> go_simp
  have HK := Lib.hid (show Kept [] w W.drew by subst hW; exact ((Kept.refl _ _).alloc _).dr ⟨1, rfl⟩)
  obtain ⟨l0, l1⟩ := hc
  unfold setV
  go_enter Tryz.func95, Tryz.ntmps95
  go_wp2_with fail
  rw [← hW]
  clear hW
  go_region_with (go_at_call 64; refine (now64L w.heap.size g _ ⟨l0, l1⟩).mono ?_; rintro e w' ⟨rfl, ⟨l0, l1⟩, hk⟩)
  all_goals
    have hs : w.heap.size ≤ w'.heap.size := (HK.out.trans hk.out).size
    have hfin := Lib.hid ((HK.out.trans hk.out).alloc (.cells (dpCells g ms S) 209))
    have hheap := Lib.hid (show (w'.alloc (.cells (dpCells g ms S) 209)).heap[w'.heap.size]? = some (.cells (dpCells g ms S) 209 (0, 0)) by
      unfold World.alloc; simp)
    have c10 : (w'.alloc (.cells (dpCells g ms 0) 209)).cell? ⟨w'.heap.size, 10, none⟩ = some (.int .i32 0) := by unfold dpCells; go_simp
    have f10 : (w'.alloc (.cells (dpCells g ms 0) 209)).frozen? ⟨w'.heap.size, 10, none⟩ = false := by unfold dpCells; go_simp
    unfold dpCells at hfin hheap c10 f10
    go_wp2_with fail
    refine (store112 _ _ _ _ c10 f10).mono ?_; rintro e w5 ⟨rfl, rfl⟩
    go_wp2_with fail
    go_ret
    exact ⟨w'.heap.size, rfl, hs, hfin.out, hheap.out⟩
end Go.Proofs.YtlpddogcnpokfaaGreat
