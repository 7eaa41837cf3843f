/- the empty set of attributes: its hash -/
import Derived.Test.YtlpddogcnpokfaaGreatCnt
import Derived.Handy
namespace Go.Proofs.YtlpddogcnpokfaaGreat
open Go.RowKit

theorem zzNew148 (w : World) : Calls Tryz.prog 148 #[] w fun e w' => e = .returned (.pointer (some ⟨w.heap.size, 0, none⟩)) ∧ w.alloc (.cells #[.slice none 0 0] 281) = w' := by
  go_enter Tryz.func148, Tryz.ntmps148
  go_wp2
  go_ret
  exact ⟨rfl, rfl⟩
theorem xxNew131 (w : World) : Calls Tryz.prog 131 #[] w fun e w' => ∃ a : Addr, e = .returned (.agg #[.pointer (some a)]) ∧ w'.cell? a = some (.slice none 0 0) ∧ w.heap.size ≤ a.block ∧ Kept [] w w' := by
  go_enter Tryz.func131, Tryz.ntmps131
  go_wp2_with fail
  refine (zzNew148 _).mono ?_; rintro e w' ⟨rfl, rfl⟩
  go_wp2_with fail
  go_returns
  refine ⟨⟨w.heap.size + 1, 0, none⟩, rfl, ?_, ?_, ((Kept.refl _ _).alloc _).alloc _⟩
  · go_simp
  · simp
theorem now64 (w : World) : Calls Tryz.prog 64 #[] w fun e w' => e = .returned (.agg #[.int .i64 0]) ∧ Kept [] w w' := by
  go_enter Tryz.func64, Tryz.ntmps64
  go_wp2
  go_returns
  exact ⟨rfl, (Kept.refl _ _).alloc _⟩
theorem sum151 (a : Addr) (w : World) (hc : w.cell? a = some (.slice none 0 0)) : Calls Tryz.prog 151 #[.pointer (some a)] w fun e w' => e = .returned (.int .u64 17241709254077376921) ∧ w = w' := by
  go_enter Tryz.func151, Tryz.ntmps151
  go_wp2_with fail
  refine wp_loop_once ?_
  go_wp2_with fail
  refine wp_loop_once ?_
  go_wp2_with fail
  go_ret
  exact ⟨rfl, rfl⟩

/-- the hash of the empty set -/
def H0 : Int := 17241709254077376921
theorem sum134 (a : Addr) (w : World) (hc : w.cell? a = some (.slice none 0 0)) (hl : a.block < w.heap.size) : Calls Tryz.prog 134 #[.agg #[.pointer (some a)]] w fun e w' => e = .returned (.int .u64 H0) ∧ Kept [] w w' := by
  go_enter Tryz.func134, Tryz.ntmps134
  go_wp2_with fail
  have hc' : (w.alloc (.cells #[.pointer (some a)] 252)).cell? a = some (.slice none 0 0) := by
    have hne : a.block ≠ w.heap.size := by omega
    go_simp
  refine (sum151 a _ hc').mono ?_; rintro e w' ⟨rfl, rfl⟩
  go_wp2_with fail
  go_returns
  exact ⟨rfl, (Kept.refl _ _).alloc _⟩
theorem cell_lt {w : World} {a : Addr} {v : Value} (h : w.cell? a = some v) : a.block < w.heap.size := by
  unfold World.cell? at h
  rcases Nat.lt_or_ge a.block w.heap.size with h1 | h1
  · exact h1
  · rw [Array.getElem?_eq_none h1] at h; cases h
theorem empty113 (w : World) : Calls Tryz.prog 113 #[] w fun e w' => e = .returned (.int .u64 H0) ∧ Kept [] w w' := by
  go_enter Tryz.func113, Tryz.ntmps113
  go_wp2_with fail
  refine (xxNew131 _).mono ?_; rintro e w1 ⟨a, rfl, hc, -, hk⟩
  go_wp2_with fail
  refine (sum134 a w1 hc (cell_lt hc)).mono ?_; rintro e w2 ⟨rfl, hk2⟩
  go_wp2_with fail
  go_returns
  exact ⟨rfl, hk.trans hk2⟩
theorem Kept.new {w w1 : World} {S : List Nat} {cs : Array Value} {t : TypeId} (hk : Kept S (w.alloc (.cells cs t)) w1) (hS : w.heap.size ∉ S) (i : Nat) :
    w1.cell? ⟨w.heap.size, i, none⟩ = cs[i]? ∧ w1.frozen? ⟨w.heap.size, i, none⟩ = false ∧ w.heap.size < w1.heap.size := by
  have hs : w.heap.size < (w.alloc (.cells cs t)).heap.size := by rw [alloc_size]; omega
  refine ⟨(hk.cell hs hS).trans ?_, (hk.frozen hs hS).trans ?_, Nat.lt_of_lt_of_le hs hk.size⟩
  · go_simp
  · go_simp
/-- what was kept from behind a new block -/
theorem Kept.past {S : List Nat} {w w1 : World} {O : Obj} (hk : Kept S (w.alloc O) w1) : Kept S w w1 := ((Kept.refl S w).alloc O).trans hk
theorem Kept.sub {S S' : List Nat} {w w1 : World} (hk : Kept S w w1) (h : ∀ i, i ∈ S → i ∈ S') : Kept S' w w1 := hk.mono fun k hm => .inl (h k hm)
/-- an empty set of attributes -/
def setV (g : Nat) : Value := .agg #[.int .u64 H0, .slice (some ⟨g, 0, none⟩) 0 0]
theorem empty86 (w : World) : Calls Tryz.prog 86 #[] w fun e w' => ∃ g, e = .returned (setV g) ∧ Kept [] w w' ∧ w.heap.size ≤ g ∧ g < w'.heap.size := by
  go_enter Tryz.func86, Tryz.ntmps86
  go_wp2_with fail
  refine (empty113 _).mono ?_; rintro e w1 ⟨rfl, hk⟩
  have d0 : w1.cell? ⟨w.heap.size, 0, none⟩ = some (.int .u64 0) := (hk.new (by simp) 0).1
  have g0 : w1.frozen? ⟨w.heap.size, 0, none⟩ = false := (hk.new (by simp) 0).2.1
  have d1 : w1.cell? ⟨w.heap.size, 1, none⟩ = some (.slice none 0 0) := (hk.new (by simp) 1).1
  have g1 : w1.frozen? ⟨w.heap.size, 1, none⟩ = false := (hk.new (by simp) 1).2.1
  have hs := (hk.new (by simp) 1).2.2
  have HK := Lib.hid hk.past
  clear hk
  have hne : w.heap.size ≠ w1.heap.size := by omega
  go_wp2_with fail
  have hfin := Lib.hid (((HK.out.setCell (p := ⟨w.heap.size, 0, none⟩) (.inr (Nat.le_refl _)) (.int .u64 H0)).setCell (p := ⟨w.heap.size, 1, none⟩) (.inr (Nat.le_refl _)) (.slice (some ⟨w1.heap.size, 0, none⟩) 0 0)).alloc (.cells #[] 197))
  have hsz := Lib.hid (show w1.heap.size < (((w1.setCell ⟨w.heap.size, 0, none⟩ (.int .u64 H0)).setCell ⟨w.heap.size, 1, none⟩ (.slice (some ⟨w1.heap.size, 0, none⟩) 0 0)).alloc (.cells #[] 197)).heap.size by simp)
  have r0 : (((w1.setCell ⟨w.heap.size, 0, none⟩ (.int .u64 H0)).setCell ⟨w.heap.size, 1, none⟩ (.slice (some ⟨w1.heap.size, 0, none⟩) 0 0)).alloc (.cells #[] 197)).cell? ⟨w.heap.size, 0, none⟩ = some (.int .u64 H0) := by go_simp
  have r1 : (((w1.setCell ⟨w.heap.size, 0, none⟩ (.int .u64 H0)).setCell ⟨w.heap.size, 1, none⟩ (.slice (some ⟨w1.heap.size, 0, none⟩) 0 0)).alloc (.cells #[] 197)).cell? ⟨w.heap.size, 1, none⟩ = some (.slice (some ⟨w1.heap.size, 0, none⟩) 0 0) := by go_simp
  generalize (((w1.setCell ⟨w.heap.size, 0, none⟩ (.int .u64 H0)).setCell ⟨w.heap.size, 1, none⟩ (.slice (some ⟨w1.heap.size, 0, none⟩) 0 0)).alloc (.cells #[] 197)) = W at *
  refine bodyPost_ret (by simp [results, Tryz.results86, go_sem, r0, r1]; rfl) rfl ?_
  exact ⟨w1.heap.size, rfl, hfin.out, by omega, hsz.out⟩
end Go.Proofs.YtlpddogcnpokfaaGreat
