/- Walks: a count in a bucket that is there, the first bucket, and a bucket before the first one where there is room; rows of counts in memory. Walk: a bucket before the first one where the row must grow; rows of counts that grow. Walks: a bucket behind the last one, with room and without. A measurement in a bucket, as one contract: what it makes of the counts, and what it leaves as it was. -/
import Derived.Test.YtlpddogcnpokfaaGreatSc
import Derived.StillTailTactics
import Derived.Lib.AppendZeros
import Derived.Lib.AppendZerosOnto
import Derived.Deep.RegionLaw
namespace Go.Proofs.YtlpddogcnpokfaaGreat
open Go.RowKit

theorem load80 (a : Addr) (n : Int) (w : World) (hc : w.cell? a = some (.int .u64 n)) :
    Calls Tryz.prog 80 #[.pointer (some a)] w fun e w' => e = .returned (.int .u64 n) ∧ w = w' := by
  go_enter Tryz.func80, Tryz.ntmps80
  go_wp2
  go_ret
  exact ⟨rfl, rfl⟩

theorem store143 (a : Addr) (v0 : Value) (n : Int) (w : World) (hc : w.cell? a = some v0) (hf : w.frozen? a = false) :
    Calls Tryz.prog 143 #[.pointer (some a), .int .u64 n] w fun e w' => e = .returned (.tuple #[]) ∧ w.setCell a (.int .u64 n) = w' := by
  go_enter Tryz.func143, Tryz.ntmps143
  go_wp2
  go_end0
  exact ⟨rfl, rfl⟩

theorem add116 (a : Addr) (x n : Int) (w : World) (hc : w.cell? a = some (.int .u64 x)) (hf : w.frozen? a = false) :
    Calls Tryz.prog 116 #[.pointer (some a), .int .u64 n] w fun e w' => e = .returned (.int .u64 (IntKind.u64.wrap (x + n))) ∧ w.setCell a (.int .u64 (IntKind.u64.wrap (x + n))) = w' := by
  go_enter Tryz.func116, Tryz.ntmps116
  go_wp2
  go_ret
  exact ⟨rfl, rfl⟩

set_option maxRecDepth 100000 in
set_option maxHeartbeats 1000000 in
theorem record121_in (b o g n c : Nat) (bin st x : Int) (w : World) (hs : w.cell? ⟨b, o, none⟩ = some (.int .i32 st)) (hv : w.cell? ⟨b, o + 1, none⟩ = some (.slice (some ⟨g, 0, none⟩) n c))
    (h0 : 0 < n) (hn : n ≤ 1000) (s1 : -1130000000 ≤ st) (s2 : st ≤ 1130000000) (b1 : st ≤ bin) (b2 : bin ≤ st + n - 1)
    (hx : w.cell? ⟨g, (bin - st).toNat, none⟩ = some (.int .u64 x)) (hf : w.frozen? ⟨g, (bin - st).toNat, none⟩ = false) :
    Calls Tryz.prog 121 #[.pointer (some ⟨b, o, none⟩), .int .i32 bin] w fun e w' => e = .returned (.tuple #[]) ∧ ∃ k, (w.setCell ⟨g, (bin - st).toNat, none⟩ (.int .u64 (IntKind.u64.wrap (x + 1)))).drewN k = w' := by
  have hz : ((n : Int) == 0) = false := by simp; omega
  go_enter Tryz.func121, Tryz.ntmps121
  go_wp2_with fail
  go_quiet (fail)
  go_wp2_with fail
  obtain ⟨w1, hW⟩ : ∃ w1, w1 = w.drewN nq := ⟨_, rfl⟩
  have hs1 : w1.cell? ⟨b, o, none⟩ = some (.int .i32 st) := by rw [hW]; exact hs
  have hv1 : w1.cell? ⟨b, o + 1, none⟩ = some (.slice (some ⟨g, 0, none⟩) n c) := by rw [hW]; exact hv
  have hx1 : w1.cell? ⟨g, (bin - st).toNat, none⟩ = some (.int .u64 x) := by rw [hW]; exact hx
  have hf1 : w1.frozen? ⟨g, (bin - st).toNat, none⟩ = false := by rw [hW]; exact hf
  rw [← hW]
  have HW := Lib.hid hW
  clear hW hs hv hx hf
  refine wp_region_still_tail 11 (by kernel_rfl) (by kernel_rfl) ?_
  change wpStill _ _ w1.drew _ _ _
  change wpStill _ _ _ (fun a' => wpList _ _ _ _ a' w1.drew) _ _
  generalize hW2 : w1.drew = w2
  have hs2 : w2.cell? ⟨b, o, none⟩ = some (.int .i32 st) := by rw [← hW2]; exact hs1
  have hv2 : w2.cell? ⟨b, o + 1, none⟩ = some (.slice (some ⟨g, 0, none⟩) n c) := by rw [← hW2]; exact hv1
  have hx2 : w2.cell? ⟨g, (bin - st).toNat, none⟩ = some (.int .u64 x) := by rw [← hW2]; exact hx1
  have hf2 : w2.frozen? ⟨g, (bin - st).toNat, none⟩ = false := by rw [← hW2]; exact hf1
  have HW2 := Lib.hid hW2
  clear hW2 hs1 hv1 hx1 hf1
  simp only [List.take_succ_cons, List.take_zero, List.drop_succ_cons, List.drop_zero]
  have hwr : IntKind.i32.wrap (bin - st) = bin - st := IntWalk.i32_in _ (by omega)
  have i1 : 0 ≤ bin - st := by omega
  have i2 : bin - st < (n : Int) := by omega
  repeat still_step
  refine wpStill_nil ?_
  go_wp2_with (go_at_call 116; refine (add116 _ _ _ _ hx2 hf2).mono ?_; rintro e w' ⟨rfl, rfl⟩)
  (try simp only [Exit.inBlock, Exit.then])
  refine bodyPost_ret (results_none rfl _ _ _) rfl ?_
  exact ⟨rfl, nq + 1, by rw [← HW2.out, HW.out]; rfl⟩
end Go.Proofs.YtlpddogcnpokfaaGreat
namespace Go.Proofs.YtlpddogcnpokfaaGreat
open Go.RowKit

/-- the world but for how many answers were drawn -/
def Dr (w w' : World) : Prop := ∃ k, w.drewN k = w'

set_option maxRecDepth 100000 in
set_option maxHeartbeats 1000000 in
theorem record121_first (b o : Nat) (bin st : Int) (w : World) (hb : b < w.heap.size) (hs : w.cell? ⟨b, o, none⟩ = some (.int .i32 st)) (hv : w.cell? ⟨b, o + 1, none⟩ = some (.slice none 0 0))
    (hf0 : w.frozen? ⟨b, o, none⟩ = false) (hf1 : w.frozen? ⟨b, o + 1, none⟩ = false) :
    Calls Tryz.prog 121 #[.pointer (some ⟨b, o, none⟩), .int .i32 bin] w fun e w' => e = .returned (.tuple #[]) ∧
      ((w.setCell ⟨b, o + 1, none⟩ (.slice (some ⟨w.heap.size, 0, none⟩) 1 1)).setCell ⟨b, o, none⟩ (.int .i32 bin)).alloc (.cells #[.int .u64 1] 151) = w' := by
  have hmk : ∀ w : World, (Instr.makeSlice 165 (.int .i64 1) (.int .i64 1)).run Tryz.prog w = .ok (.slice (some ⟨w.heap.size, 0, none⟩) 1 1) (w.alloc (.cells #[.int .u64 0] 151)) := fun _ => by kernel_rfl
  have hne : b ≠ w.heap.size := by omega
  go_enter Tryz.func121, Tryz.ntmps121
  go_wp2
  go_end0
  go_wp2
  (try simp only [Exit.inBlock, Exit.then])
  refine bodyPost_ret (results_none rfl _ _ _) rfl ?_
  exact ⟨rfl, rfl⟩
end Go.Proofs.YtlpddogcnpokfaaGreat
namespace Go.Proofs.YtlpddogcnpokfaaGreat
open Go.RowKit

/-- a count as a value -/
def U (n : Nat) : Value := .int .u64 (n : Int)
/-- a row of counts -/
def rowObj (F : List Nat) : Obj := .cells (F.map U).toArray 151 (0, 0)
/-- the world with another row in a block -/
def putRow (w : World) (g : Nat) (F : List Nat) : World := { w with heap := w.heap.setIfInBounds g (rowObj F) }

theorem putRow_cell (w : World) (g i : Nat) (F : List Nat) (hg : g < w.heap.size) : (putRow w g F).cell? ⟨g, i, none⟩ = F[i]?.map U := by
  unfold putRow World.cell? rowObj
  simp [hg]
theorem putRow_frozen (w : World) (g i : Nat) (F : List Nat) (hg : g < w.heap.size) : (putRow w g F).frozen? ⟨g, i, none⟩ = false := by
  unfold putRow World.frozen? rowObj
  simp [hg]
theorem putRow_heap (w : World) (g k : Nat) (F : List Nat) (hk : k ≠ g) : (putRow w g F).heap[k]? = w.heap[k]? := by
  unfold putRow
  simp [hk.symm]
theorem putRow_heap_same (w : World) (g : Nat) (F : List Nat) (hg : g < w.heap.size) : (putRow w g F).heap[g]? = some (rowObj F) := by
  unfold putRow
  simp [hg]
theorem putRow_cell_other (w : World) (g b o : Nat) (F : List Nat) (hk : b ≠ g) : (putRow w g F).cell? ⟨b, o, none⟩ = w.cell? ⟨b, o, none⟩ := by
  unfold World.cell?; rw [putRow_heap _ _ _ _ hk]
theorem putRow_frozen_other (w : World) (g b o : Nat) (F : List Nat) (hk : b ≠ g) : (putRow w g F).frozen? ⟨b, o, none⟩ = w.frozen? ⟨b, o, none⟩ := by
  unfold World.frozen?; rw [putRow_heap _ _ _ _ hk]
theorem putRow_size (w : World) (g : Nat) (F : List Nat) : (putRow w g F).heap.size = w.heap.size := by unfold putRow; simp
theorem putRow_same (w : World) (g : Nat) (F : List Nat) (h : w.heap[g]? = some (rowObj F)) : putRow w g F = w := by
  unfold putRow
  have : w.heap.setIfInBounds g (rowObj F) = w.heap := by
    apply Array.ext_getElem?
    intro i
    rw [Array.getElem?_setIfInBounds]
    split
    · rename_i e; subst e
      split
      · exact h.symm
      · rename_i hn; rw [Array.getElem?_eq_none (by omega)]
    · rfl
  rw [this]
theorem putRow_putRow (w : World) (g : Nat) (F G : List Nat) : putRow (putRow w g F) g G = putRow w g G := by
  unfold putRow; simp
theorem putRow_setCell (w : World) (g i x : Nat) (F : List Nat) (hg : g < w.heap.size) : (putRow w g F).setCell ⟨g, i, none⟩ (U x) = putRow w g (F.set i x) := by
  unfold putRow World.setCell rowObj
  congr 1
  apply Array.ext_getElem?
  intro k
  simp only [Array.getElem?_modify, Array.getElem?_setIfInBounds]
  by_cases hk : g = k
  · subst hk
    simp [hg, List.map_set]
  · simp [hk]
theorem putRow_drew (w : World) (g : Nat) (F : List Nat) : (putRow w g F).drew = putRow w.drew g F := rfl
theorem putRow_drewN (w : World) (g k : Nat) (F : List Nat) : (putRow w g F).drewN k = putRow (w.drewN k) g F := rfl

theorem putRow_setCell_other (w : World) (g b o : Nat) (v : Value) (F : List Nat) (hk : b ≠ g) : (putRow w g F).setCell ⟨b, o, none⟩ v = putRow (w.setCell ⟨b, o, none⟩ v) g F := by
  unfold putRow World.setCell
  congr 1
  apply Array.ext_getElem?
  intro k
  simp only [Array.getElem?_modify, Array.getElem?_setIfInBounds, Array.size_modify]
  by_cases h1 : b = k
  · subst h1; simp [hk.symm]
  · by_cases h2 : g = k
    · subst h2; simp [h1]
    · simp [h1, h2]

theorem heap_lt {w : World} {g : Nat} {o : Obj} (h : w.heap[g]? = some o) : g < w.heap.size := by
  rcases Nat.lt_or_ge g w.heap.size with h' | h'
  · exact h'
  · rw [Array.getElem?_eq_none h'] at h; cases h
theorem row_cell {w : World} {g i : Nat} {F : List Nat} (h : w.heap[g]? = some (rowObj F)) : w.cell? ⟨g, i, none⟩ = F[i]?.map U := by
  have := putRow_cell w g i F (heap_lt h)
  rwa [putRow_same w g F h] at this
theorem row_frozen {w : World} {g i : Nat} {F : List Nat} (h : w.heap[g]? = some (rowObj F)) : w.frozen? ⟨g, i, none⟩ = false := by
  have := putRow_frozen w g i F (heap_lt h)
  rwa [putRow_same w g F h] at this
theorem row_setCell {w : World} {g i x : Nat} {F : List Nat} (h : w.heap[g]? = some (rowObj F)) : w.setCell ⟨g, i, none⟩ (U x) = putRow w g (F.set i x) := by
  have := putRow_setCell w g i x F (heap_lt h)
  rwa [putRow_same w g F h] at this
end Go.Proofs.YtlpddogcnpokfaaGreat
namespace Go.Proofs.YtlpddogcnpokfaaGreat
open Go.RowKit

/-- the first loop: what is left of the old row, and what has been moved up by 's' -/
def ShRel (F : List Nat) (n s k : Nat) (G : List Nat) : Prop := G.length = F.length ∧ (∀ j, j < k → G[j]? = F[j]?) ∧ (∀ j, k ≤ j → j < n → G[j + s]? = F[j]?)
theorem ShRel.start (F : List Nat) (n s : Nat) : ShRel F n s n F := ⟨rfl, fun _ _ => rfl, fun j h1 h2 => by omega⟩
theorem ShRel.step {F G : List Nat} {n s m x : Nat} (h : ShRel F n s (m + 1) G) (hs : 0 < s) (hx : F[m]? = some x) (hn : n + s ≤ F.length) (hm : m < n) : ShRel F n s m (G.set (m + s) x) := by
  obtain ⟨h1, h2, h3⟩ := h
  refine ⟨by simpa using h1, fun j hj => ?_, fun j hj hj2 => ?_⟩
  · rw [List.getElem?_set_ne (by omega)]; exact h2 j (by omega)
  · by_cases e : j = m
    · subst e; rw [List.getElem?_set_self (by omega), hx]
    · rw [List.getElem?_set_ne (by omega)]; exact h3 j (by omega) hj2
/-- the second loop: zeros below 'k' -/
def ZeRel (F : List Nat) (n s k : Nat) (G : List Nat) : Prop := G.length = F.length ∧ (∀ j, 1 ≤ j → j < k → G[j]? = some 0) ∧ (∀ j, j < n → G[j + s]? = F[j]?)
theorem ZeRel.start {F G : List Nat} {n s : Nat} (h : ShRel F n s 0 G) : ZeRel F n s 1 G := ⟨h.1, fun j h1 h2 => by omega, fun j hj => h.2.2 j (by omega) hj⟩
theorem ZeRel.step {F G : List Nat} {n s k : Nat} (h : ZeRel F n s k G) (hk : k < s) (hn : n + s ≤ F.length) : ZeRel F n s (k + 1) (G.set k 0) := by
  obtain ⟨h1, h2, h3⟩ := h
  refine ⟨by simpa using h1, fun j hj hj2 => ?_, fun j hj => ?_⟩
  · by_cases e : j = k
    · subst e; rw [List.getElem?_set_self (by omega)]
    · rw [List.getElem?_set_ne (by omega)]; exact h2 j hj (by omega)
  · rw [List.getElem?_set_ne (by omega)]; exact h3 j hj
theorem ZeRel.fin {F G : List Nat} {n s : Nat} (h : ZeRel F n s s G) (hs : 0 < s) (hn : n + s ≤ F.length) : (G.set 0 1).length = F.length ∧ (G.set 0 1).take (n + s) = 1 :: (List.replicate (s - 1) 0 ++ F.take n) := by
  obtain ⟨h1, h2, h3⟩ := h
  refine ⟨by simpa using h1, ?_⟩
  apply List.ext_getElem?
  intro j
  by_cases hj : j < n + s
  · rw [List.getElem?_take_of_lt hj]
    cases j with
    | zero => rw [List.getElem?_set_self (by omega)]; rfl
    | succ j =>
      rw [List.getElem?_set_ne (by omega), List.getElem?_cons_succ]
      by_cases hj2 : j + 1 < s
      · rw [h2 _ (by omega) hj2, List.getElem?_append_left (by simp; omega), List.getElem?_replicate, if_pos (by omega)]
      · rw [List.getElem?_append_right (by simp; omega)]
        simp only [List.length_replicate]
        rw [List.getElem?_take_of_lt (by omega), ← h3 (j - (s - 1)) (by omega)]
        congr 1; omega
  · rw [List.getElem?_eq_none (by simp; omega), List.getElem?_eq_none (by simp; omega)]

theorem load80' (a : Addr) (n : Int) (w : World) (hc : w.cell? a = some (.int .u64 n)) :
    Calls Tryz.prog 80 #[.pointer (some a)] w fun e w' => e = .returned (.int .u64 n) ∧ w' = w :=
  (load80 a n w hc).mono fun _ _ ⟨h1, h2⟩ => ⟨h1, h2.symm⟩
theorem storeU (a : Addr) (v0 : Value) (n : Nat) (w : World) (hc : w.cell? a = some v0) (hf : w.frozen? a = false) :
    Calls Tryz.prog 143 #[.pointer (some a), U n] w fun e w' => e = .returned (.tuple #[]) ∧ w.setCell a (U n) = w' := store143 a v0 n w hc hf

set_option maxRecDepth 100000 in
set_option maxHeartbeats 1000000 in
theorem record121_before (b o g n s : Nat) (bin st : Int) (F : List Nat) (w : World) (hs : w.cell? ⟨b, o, none⟩ = some (.int .i32 st))
    (hv : w.cell? ⟨b, o + 1, none⟩ = some (.slice (some ⟨g, 0, none⟩) n F.length)) (hg : w.heap[g]? = some (rowObj F)) (hbg : b ≠ g)
    (hf0 : w.frozen? ⟨b, o, none⟩ = false) (hf1 : w.frozen? ⟨b, o + 1, none⟩ = false)
    (h0 : 0 < n) (s1 : -1130000000 ≤ bin) (s2 : st ≤ 1130000000) (hsb : st - bin = (s : Int)) (hs0 : 0 < s) (hroom : n + s ≤ F.length) (hns : n + s ≤ 1000) (hF : F.length ≤ 9223372036854775807) :
    Calls Tryz.prog 121 #[.pointer (some ⟨b, o, none⟩), .int .i32 bin] w fun e w' => e = .returned (.tuple #[]) ∧ ∃ F', F'.length = F.length ∧ F'.take (n + s) = 1 :: (List.replicate (s - 1) 0 ++ F.take n) ∧
      Dr (putRow ((w.setCell ⟨b, o + 1, none⟩ (.slice (some ⟨g, 0, none⟩) (n + s) F.length)).setCell ⟨b, o, none⟩ (.int .i32 bin)) g F') w' := by
  have hz : ((n : Int) == 0) = false := by simp; omega
  have q1 : ¬ st ≤ bin := by omega
  have q2 : bin < st := by omega
  have q3 : st + (n : Int) - 1 - bin + 1 = ((n + s : Nat) : Int) := by omega
  have q4 : ¬ ((F.length : Int) < ((n + s : Nat) : Int)) := by omega
  have q5 : decide (st ≤ bin) = false := by simpa using q2
  go_enter Tryz.func121, Tryz.ntmps121
  go_wp2_with fail
  go_quiet (fail)
  go_wp2_with fail
  have hsW : ((w.drewN nq).setCell ⟨b, o + 1, none⟩ (.slice (some ⟨g, 0, none⟩) (n + s) F.length)).cell? ⟨b, o, none⟩ = some (.int .i32 st) := by go_simp
  have hvW : ((w.drewN nq).setCell ⟨b, o + 1, none⟩ (.slice (some ⟨g, 0, none⟩) (n + s) F.length)).cell? ⟨b, o + 1, none⟩ = some (.slice (some ⟨g, 0, none⟩) (n + s) F.length) := by go_simp
  have hfW : ((w.drewN nq).setCell ⟨b, o + 1, none⟩ (.slice (some ⟨g, 0, none⟩) (n + s) F.length)).frozen? ⟨b, o, none⟩ = false := by go_simp
  have hgW : ((w.drewN nq).setCell ⟨b, o + 1, none⟩ (.slice (some ⟨g, 0, none⟩) (n + s) F.length)).heap[g]? = some (rowObj F) := by
    rw [Below.heap_setCell _ _ _ _ (by simpa using hbg.symm)]; exact hg
  generalize hW : (w.drewN nq).setCell ⟨b, o + 1, none⟩ (.slice (some ⟨g, 0, none⟩) (n + s) F.length) = W0 at *
  have HW := Lib.hid hW
  have HGW := Lib.hid hgW
  have hgs := Lib.hid (heap_lt hgW)
  have HBG := Lib.hid hbg
  have HV := Lib.hid hv
  have HG := Lib.hid hg
  clear hW hgW hs hv hg hbg hf0 hf1 hsb q3
  go_loopw [8] (fun i wr => ∃ (k : Nat) (G : List Nat), k ≤ n ∧ i = .int .i64 ((k : Int) - 1) ∧ Dr (putRow W0 g G) wr ∧ ShRel F n s k G) (fun i _ => (intOf i + 1).toNat)
  case atStart => exact ⟨n, F, by omega, rfl, ⟨0, by rw [putRow_same _ _ _ HGW.out]; rfl⟩, ShRel.start F n s⟩
  case round =>
    obtain ⟨k, G, hk, rfl, ⟨kd, hkd⟩, hsh⟩ := hrel
    have hvr : wr.cell? ⟨b, o + 1, none⟩ = some (.slice (some ⟨g, 0, none⟩) (n + s) F.length) := by
      rw [← hkd]; show (putRow W0 g G).cell? _ = _; rw [putRow_cell_other _ _ _ _ _ HBG.out]; exact hvW
    have hsr : wr.cell? ⟨b, o, none⟩ = some (.int .i32 st) := by
      rw [← hkd]; show (putRow W0 g G).cell? _ = _; rw [putRow_cell_other _ _ _ _ _ HBG.out]; exact hsW
    have hfr : wr.frozen? ⟨b, o, none⟩ = false := by
      rw [← hkd]; show (putRow W0 g G).frozen? _ = _; rw [putRow_frozen_other _ _ _ _ _ HBG.out]; exact hfW
    have hcr := Lib.hid (show ∀ i, wr.cell? ⟨g, i, none⟩ = G[i]?.map U ∧ wr.frozen? ⟨g, i, none⟩ = false by
      intro i; rw [← hkd]; exact ⟨putRow_cell W0 g i G hgs.out, putRow_frozen W0 g i G hgs.out⟩)
    have HKD := Lib.hid hkd
    have HSH := Lib.hid hsh
    clear hkd hsh
    cases k with
    | zero =>
      rw [show ((0 : Nat) : Int) - 1 = -1 from rfl]
      go_wp2_with fail
      have hzr := Lib.hid (ZeRel.start HSH.out)
      obtain ⟨wo, hwo⟩ : ∃ wo : World, wo = wr := ⟨_, rfl⟩
      have HWO := Lib.hid hwo
      clear hwo
      go_loopw [9] (fun i wr => ∃ (k : Nat) (G : List Nat), 1 ≤ k ∧ k ≤ s ∧ i = .int .i64 (k : Int) ∧ Dr (putRow W0 g G) wr ∧ ZeRel F n s k G) (fun i _ => s - (intOf i).toNat)
      case atStart => exact ⟨1, G, by omega, by omega, rfl, ⟨kd, HKD.out⟩, hzr.out⟩
      case round =>
        clear hvr hsr hfr hcr HKD HSH hzr HWO
        clear wo
        clear G kd
        obtain ⟨k, G, hk1, hk2, rfl, ⟨kd, hkd⟩, hsh⟩ := hrel
        have hvr : wr.cell? ⟨b, o + 1, none⟩ = some (.slice (some ⟨g, 0, none⟩) (n + s) F.length) := by
          rw [← hkd]; show (putRow W0 g G).cell? _ = _; rw [putRow_cell_other _ _ _ _ _ HBG.out]; exact hvW
        have hsr : wr.cell? ⟨b, o, none⟩ = some (.int .i32 st) := by
          rw [← hkd]; show (putRow W0 g G).cell? _ = _; rw [putRow_cell_other _ _ _ _ _ HBG.out]; exact hsW
        have hfr : wr.frozen? ⟨b, o, none⟩ = false := by
          rw [← hkd]; show (putRow W0 g G).frozen? _ = _; rw [putRow_frozen_other _ _ _ _ _ HBG.out]; exact hfW
        have HKD := Lib.hid hkd
        have HSH := Lib.hid hsh
        clear hkd hsh
        by_cases hlt : k < s
        · obtain ⟨y, hy⟩ : ∃ y, G[k]? = some y := ⟨_, List.getElem?_eq_getElem (by have := HSH.out.1; omega)⟩
          have hc2 : wr.cell? ⟨g, k, none⟩ = some (U y) := by rw [← HKD.out]; exact (putRow_cell W0 g k G hgs.out).trans (by rw [hy]; rfl)
          have hc3 : wr.frozen? ⟨g, k, none⟩ = false := by rw [← HKD.out]; exact putRow_frozen W0 g k G hgs.out
          have hset := Lib.hid (show wr.setCell ⟨g, k, none⟩ (U 0) = (putRow W0 g (G.set k 0)).drewN kd by
            rw [← HKD.out]; exact putRow_setCell (W0.drewN kd) g k 0 G hgs.out)
          clear hy
          go_wp2_with (go_at_call 143; refine (storeU _ _ 0 _ hc2 hc3).mono ?_; rintro e w' ⟨rfl, rfl⟩)
          go_roundw
          case rel => exact ⟨k + 1, G.set k 0, by omega, by omega, by go_num, ⟨kd, hset.out.symm⟩, ZeRel.step HSH.out hlt (by omega)⟩
          case measure => simp [intOf]; omega
        · obtain rfl : k = s := by omega
          obtain ⟨y, hy⟩ : ∃ y, G[0]? = some y := ⟨_, List.getElem?_eq_getElem (by have := HSH.out.1; omega)⟩
          have hc2 : (wr.setCell ⟨b, o, none⟩ (.int .i32 bin)).cell? ⟨g, 0, none⟩ = some (U y) := by
            rw [World.cell?_of_block (Below.heap_setCell wr ⟨b, o, none⟩ _ g (Ne.symm HBG.out)), ← HKD.out]; exact (putRow_cell W0 g 0 G hgs.out).trans (by rw [hy]; rfl)
          have hc3 : (wr.setCell ⟨b, o, none⟩ (.int .i32 bin)).frozen? ⟨g, 0, none⟩ = false := by
            rw [World.frozen?_of_block (Below.heap_setCell wr ⟨b, o, none⟩ _ g (Ne.symm HBG.out)), ← HKD.out]; exact putRow_frozen W0 g 0 G hgs.out
          have hset := Lib.hid (show (wr.setCell ⟨b, o, none⟩ (.int .i32 bin)).setCell ⟨g, 0, none⟩ (U 1) = (putRow (W0.setCell ⟨b, o, none⟩ (.int .i32 bin)) g (G.set 0 1)).drewN kd by
            rw [← HKD.out]
            show ((putRow (W0.drewN kd) g G).setCell _ _).setCell _ _ = _
            rw [putRow_setCell_other _ _ _ _ _ _ HBG.out]
            exact putRow_setCell ((W0.drewN kd).setCell ⟨b, o, none⟩ (.int .i32 bin)) g 0 1 G (by simpa [World.setCell] using hgs.out))
          have hfin := ZeRel.fin HSH.out hs0 hroom
          have HF := Lib.hid hfin
          clear hfin hy hlt
          go_wp2_with (go_at_call 143; refine (storeU _ _ 1 _ hc2 hc3).mono ?_; rintro e w' ⟨rfl, rfl⟩)
          (try simp only [Exit.inBlock, Exit.then])
          refine bodyPost_ret (results_none rfl _ _ _) rfl ?_
          exact ⟨rfl, G.set 0 1, HF.out.1, HF.out.2, nq + kd, by rw [hset.out, ← HW.out]; simp only [← World.drewN_drewN]; rfl⟩
    | succ m =>
      rw [show ((m + 1 : Nat) : Int) - 1 = (m : Int) from by omega]
      obtain ⟨x, hx⟩ : ∃ x, F[m]? = some x := ⟨_, List.getElem?_eq_getElem (by omega)⟩
      obtain ⟨y, hy⟩ : ∃ y, G[m + s]? = some y := ⟨_, List.getElem?_eq_getElem (by have := HSH.out.1; omega)⟩
      have HX := Lib.hid hx
      have hc1 : wr.cell? ⟨g, m, none⟩ = some (U x) := by rw [(hcr.out m).1, HSH.out.2.1 m (by omega), hx]; rfl
      have hc2 : wr.cell? ⟨g, m + s, none⟩ = some (U y) := by rw [(hcr.out (m + s)).1, hy]; rfl
      have hc3 : wr.frozen? ⟨g, m + s, none⟩ = false := (hcr.out (m + s)).2
      have hset := Lib.hid (show wr.setCell ⟨g, m + s, none⟩ (U x) = (putRow W0 g (G.set (m + s) x)).drewN kd by
        rw [← HKD.out]; exact putRow_setCell (W0.drewN kd) g (m + s) x G hgs.out)
      clear hx hy
      go_wp2_with fail
      refine wp_region_still_tail 16 (by kernel_rfl) (by kernel_rfl) ?_
      change wpStill _ _ wr.drew (fun a' => wpList _ _ _ _ a' wr.drew) _ _
      generalize hW2 : wr.drew = w2
      have hv2 : w2.cell? ⟨b, o + 1, none⟩ = some (.slice (some ⟨g, 0, none⟩) (n + s) F.length) := by rw [← hW2]; exact hvr
      have d1 : w2.cell? ⟨g, m, none⟩ = some (U x) := by rw [← hW2]; exact hc1
      have d2 : w2.cell? ⟨g, m + s, none⟩ = some (U y) := by rw [← hW2]; exact hc2
      have d3 : w2.frozen? ⟨g, m + s, none⟩ = false := by rw [← hW2]; exact hc3
      have HW2 := Lib.hid hW2
      clear hW2 hc1 hc2 hc3
      simp only [List.take_succ_cons, List.take_zero, List.drop_succ_cons, List.drop_zero]
      have w1 : IntKind.i64.wrap ((m : Int) + (s : Int)) = (m : Int) + (s : Int) := IntWalk.i64_in _ (by omega)
      have w0 : IntKind.i64.wrap (s : Int) = (s : Int) := IntWalk.i64_in _ (by omega)
      have w1' : ((m : Int) + (s : Int)).toNat = m + s := by omega
      have w2' : (m : Int) + (s : Int) < (n : Int) + (s : Int) := by omega
      have w3 : (0 : Int) ≤ (m : Int) + (s : Int) := by omega
      have w4 : (m : Int) < (n : Int) + (s : Int) := by omega
      repeat still_step
      still_call (load80' _ _ _ d1)
      refine wpStill_nil ?_
      go_wp2_with (go_at_call 143; refine (storeU _ _ _ _ d2 d3).mono ?_; rintro e w' ⟨rfl, rfl⟩)
      go_roundw
      case rel => exact ⟨m, G.set (m + s) x, by omega, rfl, ⟨kd + 1, by rw [← HW2.out, show wr.drew.setCell ⟨g, m + s, none⟩ (U x) = (wr.setCell ⟨g, m + s, none⟩ (U x)).drew from rfl, hset.out]; rfl⟩, ShRel.step HSH.out hs0 HX.out hroom (by omega)⟩
      case measure => simp [intOf]
end Go.Proofs.YtlpddogcnpokfaaGreat
namespace Go.Proofs.YtlpddogcnpokfaaGreat
open Go.RowKit

theorem growBy_le (newLen : Nat) : ∀ r c, newLen ≤ 1000 → c ≤ 1000 → r ≤ 4 → Builtin.growBy newLen r c ≤ 2000 := by
  intro r
  induction r with
  | zero => intro c h1 h2 h3; unfold Builtin.growBy; omega
  | succ r ih =>
    intro c h1 h2 h3
    unfold Builtin.growBy
    split
    · omega
    · rename_i hc
      by_cases h : c + (c + 768) / 4 ≤ 1000
      · exact ih _ h1 h (by omega)
      · have : Builtin.growBy newLen r (c + (c + 768) / 4) = c + (c + 768) / 4 := by
          cases r with
          | zero => rfl
          | succ r => unfold Builtin.growBy; rw [if_pos (by omega)]
        rw [this]; omega
theorem nextcap_le (need old : Nat) (h : need ≤ 1000) (h2 : old ≤ 1000) : Builtin.nextslicecap need old ≤ 2000 := by
  unfold Builtin.nextslicecap
  split
  · omega
  · split
    · omega
    · exact growBy_le need 4 old h h2 (by omega)

theorem info151 : ∃ i, Tryz.prog.info? 151 = some i ∧ i.zero = some (.agg #[.int .u64 0]) ∧ i.size = 1 ∧ i.bytes = 8 := by
  have h : (Tryz.prog.info? 151).map (fun i => (i.zero, i.size, i.bytes)) = some (some (.agg #[.int .u64 0]), 1, 8) := by kernel_rfl
  cases hi : Tryz.prog.info? 151 with
  | none => rw [hi] at h; cases h
  | some i => rw [hi] at h; simp only [Option.map_some, Option.some.injEq, Prod.mk.injEq] at h; exact ⟨i, rfl, h.1, h.2.1, h.2.2⟩

theorem zeroCells_U (k : Nat) : Builtin.zeroCells (Value.agg #[.int .u64 0]).cells k = ((List.replicate k 0).map U).toArray := by
  unfold Builtin.zeroCells
  apply Array.ext_getElem?
  intro i
  simp [Value.cells, U]
  by_cases h : i < k
  · simp [h, Nat.mod_one]
  · simp [h]

/-- a longer row, of zeros behind what there was -/
def grownRow (F : List Nat) (n c : Nat) : List Nat := F.take n ++ List.replicate (c - n) 0
theorem grownRow_length (F : List Nat) (n c : Nat) (h : n ≤ F.length) (hc : n ≤ c) : (grownRow F n c).length = c := by
  unfold grownRow; simp; omega
theorem grownRow_take (F : List Nat) (n c : Nat) (h : n ≤ F.length) : (grownRow F n c).take n = F.take n := by
  unfold grownRow; rw [List.take_append_of_le_length (by simp; omega), List.take_take, Nat.min_self]

theorem grown_eq (w : World) (F : List Nat) (n k c : Nat) (hge : n + k ≤ c) :
    w.drew.alloc (.cells (((F.take n).map U).toArray ++ ((List.replicate k 0).map U).toArray ++ ((List.replicate (c - (n + k)) 0).map U).toArray) 151) = w.drew.alloc (rowObj (grownRow F n c)) := by
  congr 1
  unfold rowObj grownRow
  congr 1
  rw [List.map_append]
  simp only [List.append_toArray, List.append_assoc]
  rw [← List.map_append, List.replicate_append_replicate, show k + (c - (n + k)) = c - n from by omega]

theorem run_grow (w : World) (ty : TypeId) (g n k : Nat) (F : List Nat) (hg : w.heap[g]? = some (rowObj F)) (hn : n ≤ F.length) (h0 : 0 < k) (hk : F.length < n + k) (hnk : n + k ≤ 1000) :
    ∃ c, n + k ≤ c ∧ c ≤ maxLen ∧ (Builtin.append_ #[165, 3] ty #[.slice (some ⟨g, 0, none⟩) n F.length, .int .i64 (k : Int)]).run Tryz.prog w =
      .ok (.slice (some ⟨w.heap.size, 0, none⟩) (n + k) c) (w.drew.alloc (rowObj (grownRow F n c))) := by
  obtain ⟨i, hi, hz, hs, hb⟩ := info151
  have hold : (Builtin.firstCells i.size n (.slice (some ⟨g, 0, none⟩) n F.length)).run Tryz.prog w.drew = .ok ((F.take n).map U).toArray w.drew := by
    rw [hs]
    refine run_firstCells_some (P := Tryz.prog) w.drew 1 n ⟨g, 0, none⟩ n F.length ((F.take n).map U) (by simp; omega) ?_
    intro j v hj
    have hc := row_cell (i := j) hg
    have : w.drew.cell? ((⟨g, 0, none⟩ : Addr).add j) = w.cell? ⟨g, j, none⟩ := by
      unfold Addr.add
      by_cases hj0 : j = 0
      · subst hj0; rfl
      · rw [if_neg hj0]; simp only [Nat.zero_add]; rfl
    rw [this, hc]
    rw [List.getElem?_map] at hj
    have hjn : j < n := by
      by_cases h : j < n
      · exact h
      · rw [List.getElem?_eq_none (by simp; omega)] at hj; cases hj
    rw [List.getElem?_take_of_lt hjn] at hj
    exact hj
  have hc := nextcap_le (n + k) F.length hnk (by omega)
  have hr := Lib.run_append_grow_zeros (P := Tryz.prog) w 165 3 ty 151 i _ .i64 .i64 Tryz.underlying165 Tryz.underlying3 hi hz (some ⟨g, 0, none⟩) n F.length _ hold k h0 (by omega) hk (by omega) (by rw [hb]; omega) (by rw [hb]; omega)
  refine ⟨grownCap w (n + k) F.length 151, grownCap_ge .., grownCap_le_maxLen _ _ _ _ (by unfold maxLen; omega), ?_⟩
  rw [hr, zeroCells_U, zeroCells_U, grown_eq w F n k _ (grownCap_ge w (n + k) F.length 151)]
end Go.Proofs.YtlpddogcnpokfaaGreat
namespace Go.Proofs.YtlpddogcnpokfaaGreat
open Go.RowKit

theorem setCell_twice (w : World) (a : Addr) (v : Value) : (w.setCell a v).setCell a v = w.setCell a v := by
  unfold World.setCell
  congr 1
  apply Array.ext_getElem?
  intro k
  simp only [Array.getElem?_modify]
  by_cases h : a.block = k
  · simp only [h, if_true, Option.map_map]
    congr 1
    funext ob
    cases ob <;> first | rfl | (simp only [Function.comp]; split <;> simp)
  · simp [h]

theorem new_block (w : World) (a : Addr) (v : Value) (O : Obj) : ((w.setCell a v).alloc O).heap[w.heap.size]? = some O := by
  have h : (w.setCell a v).heap.size = w.heap.size := by unfold World.setCell; simp
  show ((w.setCell a v).heap.push O)[w.heap.size]? = some O
  rw [Array.getElem?_push, if_pos h.symm]

theorem grow_world (w : World) (b o j k : Nat) (v x : Value) (O : Obj) (G : List Nat) (_hb : b < w.heap.size) :
    (((w.setCell ⟨b, o + 1, none⟩ v).setCell ⟨b, o, none⟩ x).alloc (rowObj G)).drewN (j + 2 + k) =
      (putRow (((((w.drewN j).setCell ⟨b, o + 1, none⟩ v).alloc O).drew.drew).setCell ⟨b, o, none⟩ x) (w.drewN j).heap.size G).drewN k := by
  have hd : ∀ (A B : World) (m : Nat), A.heap = B.heap → A.tape = B.tape → A.os = B.os → A.output = B.output → A.drawn + m = B.drawn → A.drewN m = B := by
    intro A B m h1 h2 h3 h4 h5
    cases A; cases B
    simp only at h1 h2 h3 h4 h5
    subst h1 h2 h3 h4
    simp only [World.drewN]
    congr 1
  refine hd _ _ _ ?_ rfl rfl rfl ?_
  · show (((w.setCell ⟨b, o + 1, none⟩ v).setCell ⟨b, o, none⟩ x).alloc (rowObj G)).heap = _
    apply Array.ext_getElem?
    intro i
    simp only [World.alloc, World.setCell, World.drew, World.drewN, putRow, Array.getElem?_push, Array.getElem?_setIfInBounds, Array.getElem?_modify, Array.size_modify, Array.size_push]
    by_cases h1 : i = w.heap.size
    · subst h1
      simp
    · have h1' : ¬ w.heap.size = i := fun e => h1 e.symm
      simp [h1, h1']
  · simp only [World.alloc, World.setCell, World.drew, World.drewN, putRow]; omega

theorem step_append_run {P : Program} {ops : Array Oper} {o : Oper} {a : Act} {w : World} {K : Act → World → Prop} {Q : Exit → Act → World → Prop} {E : Prop}
    (hg : o.guard = none) (s x : Operand) (t tn : TypeId) (ho : o.op = .call { callee := .builtin .append, args := #[s, x], argTypes := #[t, tn] }) (vs vx : Value) (hs : a.eval s = vs) (hx : a.eval x = vx)
    (v' : Value) (w' : World) (hr : (Builtin.append_ #[t, tn] o.type #[vs, vx]).run P w = .ok v' w') (hK : K (a.put o.dst v') w') :
    if Region.wanted o (yielded ops a.tmps) = true then Oper.wp P o a w K Q else E := by
  rw [if_pos (by simp [Region.wanted, hg])]
  exact Lib.wp_append_run w s x t tn ho vs vx hs hx v' w' hr hK

set_option maxRecDepth 100000 in
set_option maxHeartbeats 2000000 in
theorem record121_grow (b o g n s : Nat) (bin st : Int) (F : List Nat) (w : World) (hs : w.cell? ⟨b, o, none⟩ = some (.int .i32 st))
    (hv : w.cell? ⟨b, o + 1, none⟩ = some (.slice (some ⟨g, 0, none⟩) n F.length)) (hg : w.heap[g]? = some (rowObj F)) (hbg : b ≠ g) (hb : b < w.heap.size)
    (hf0 : w.frozen? ⟨b, o, none⟩ = false) (hf1 : w.frozen? ⟨b, o + 1, none⟩ = false)
    (h0 : 0 < n) (hnF : n ≤ F.length) (s1 : -1130000000 ≤ bin) (s2 : st ≤ 1130000000) (hsb : st - bin = (s : Int)) (hs0 : 0 < s) (hroom : F.length < n + s) (hns : n + s ≤ 1000) :
    Calls Tryz.prog 121 #[.pointer (some ⟨b, o, none⟩), .int .i32 bin] w fun e w' => e = .returned (.tuple #[]) ∧ ∃ G : List Nat, n + s ≤ G.length ∧ G.length ≤ maxLen ∧ G.take (n + s) = 1 :: (List.replicate (s - 1) 0 ++ F.take n) ∧
      Dr (((w.setCell ⟨b, o + 1, none⟩ (.slice (some ⟨w.heap.size, 0, none⟩) (n + s) G.length)).setCell ⟨b, o, none⟩ (.int .i32 bin)).alloc (rowObj G)) w' := by
  have hz : ((n : Int) == 0) = false := by simp; omega
  have q1 : ¬ st ≤ bin := by omega
  have q2 : bin < st := by omega
  have q3 : st + (n : Int) - 1 - bin + 1 = ((n + s : Nat) : Int) := by omega
  have q4 : (F.length : Int) < ((n + s : Nat) : Int) := by omega
  have q5 : decide (st ≤ bin) = false := by simpa using q2
  go_enter Tryz.func121, Tryz.ntmps121
  go_wp2_with fail
  go_quiet (fail)
  go_wp2_with fail
  obtain ⟨w1, hW1⟩ : ∃ w1, w1 = w.drewN nq := ⟨_, rfl⟩
  rw [← hW1]
  have hv2 : w1.cell? ⟨b, o + 1, none⟩ = some (.slice (some ⟨g, 0, none⟩) n F.length) := by rw [hW1]; exact hv
  have hs2 : w1.cell? ⟨b, o, none⟩ = some (.int .i32 st) := by rw [hW1]; exact hs
  have hfb2 : w1.frozen? ⟨b, o, none⟩ = false := by rw [hW1]; exact hf0
  have hfv2 : w1.frozen? ⟨b, o + 1, none⟩ = false := by rw [hW1]; exact hf1
  have hg2 : w1.heap[g]? = some (rowObj F) := by rw [hW1]; exact hg
  have hb2 : b < w1.heap.size := by rw [hW1]; exact hb
  have HW := Lib.hid hW1
  have hq2 : (n : Int) + (s : Int) - (n : Int) = (s : Int) := by omega
  have hq : IntKind.i64.wrap (s : Int) = (s : Int) := IntWalk.i64_in _ (by omega)
  obtain ⟨c, c1, c2, hrun⟩ := run_grow w1.drew 165 g n s F hg2 hnF hs0 hroom hns
  have HRUN := Lib.hid hrun
  have HG2 := Lib.hid hg2
  have hne : b ≠ w1.heap.size := by omega
  clear hW1 hs hv hg hf0 hf1 hrun hg2
  go_region_law (refine step_append_run rfl (.tmp 101) (.tmp 108) 165 3 rfl (.slice (some ⟨g, 0, none⟩) n F.length) (.int .i64 (s : Int)) rfl rfl _ _ HRUN.out ?_)
  all_goals
    go_wp2_with fail
    rw [setCell_twice]
    have hc63 : c ≤ 9223372036854775807 := by unfold maxLen at c2; omega
    have hsW : (((w1.setCell ⟨b, o + 1, none⟩ (.slice (some ⟨w1.heap.size, 0, none⟩) (n + s) c)).alloc (rowObj (grownRow F n c))).drew.drew).cell? ⟨b, o, none⟩ = some (.int .i32 st) := by go_simp
    have hvW : (((w1.setCell ⟨b, o + 1, none⟩ (.slice (some ⟨w1.heap.size, 0, none⟩) (n + s) c)).alloc (rowObj (grownRow F n c))).drew.drew).cell? ⟨b, o + 1, none⟩ = some (.slice (some ⟨w1.heap.size, 0, none⟩) (n + s) c) := by go_simp
    have hfW : (((w1.setCell ⟨b, o + 1, none⟩ (.slice (some ⟨w1.heap.size, 0, none⟩) (n + s) c)).alloc (rowObj (grownRow F n c))).drew.drew).frozen? ⟨b, o, none⟩ = false := by go_simp
    have hgW : (((w1.setCell ⟨b, o + 1, none⟩ (.slice (some ⟨w1.heap.size, 0, none⟩) (n + s) c)).alloc (rowObj (grownRow F n c))).drew.drew).heap[w1.heap.size]? = some (rowObj (grownRow F n c)) := by
      exact new_block _ _ _ _
    have HL := Lib.hid (grownRow_length F n c hnF (by omega))
    have HT := Lib.hid (grownRow_take F n c hnF)
    generalize hW : ((w1.setCell ⟨b, o + 1, none⟩ (.slice (some ⟨w1.heap.size, 0, none⟩) (n + s) c)).alloc (rowObj (grownRow F n c))).drew.drew = W0 at *
    generalize hg' : w1.heap.size = g' at *
    generalize hF' : grownRow F n c = F' at *
    have HG' := Lib.hid hg'
    have HF' := Lib.hid hF'
    have hbg0 := hbg
    have hbg := hne
    have HB := Lib.hid hb
    clear hne hg' hF' hb
    have HW0 := Lib.hid hW
    have HGW := Lib.hid hgW
    have hgs := Lib.hid (heap_lt hgW)
    have HBG := Lib.hid hbg
    clear hW hgW hbg hsb q3 hs2 hv2 hfb2 hfv2 hb2 hbg0 HRUN HG2
    go_loopw [8] (fun i wr => ∃ (k : Nat) (G : List Nat), k ≤ n ∧ i = .int .i64 ((k : Int) - 1) ∧ Dr (putRow W0 g' G) wr ∧ ShRel F' n s k G) (fun i _ => (intOf i + 1).toNat)
    case atStart => exact ⟨n, F', by omega, rfl, ⟨0, by rw [putRow_same _ _ _ HGW.out]; rfl⟩, ShRel.start F' n s⟩
    case round =>
      obtain ⟨k, G, hk, rfl, ⟨kd, hkd⟩, hsh⟩ := hrel
      have hvr : wr.cell? ⟨b, o + 1, none⟩ = some (.slice (some ⟨g', 0, none⟩) (n + s) c) := by
        rw [← hkd]; show (putRow W0 g' G).cell? _ = _; rw [putRow_cell_other _ _ _ _ _ HBG.out]; exact hvW
      have hsr : wr.cell? ⟨b, o, none⟩ = some (.int .i32 st) := by
        rw [← hkd]; show (putRow W0 g' G).cell? _ = _; rw [putRow_cell_other _ _ _ _ _ HBG.out]; exact hsW
      have hfr : wr.frozen? ⟨b, o, none⟩ = false := by
        rw [← hkd]; show (putRow W0 g' G).frozen? _ = _; rw [putRow_frozen_other _ _ _ _ _ HBG.out]; exact hfW
      have hcr := Lib.hid (show ∀ i, wr.cell? ⟨g', i, none⟩ = G[i]?.map U ∧ wr.frozen? ⟨g', i, none⟩ = false by
        intro i; rw [← hkd]; exact ⟨putRow_cell W0 g' i G hgs.out, putRow_frozen W0 g' i G hgs.out⟩)
      have HKD := Lib.hid hkd
      have HSH := Lib.hid hsh
      clear hkd hsh
      cases k with
      | zero =>
        rw [show ((0 : Nat) : Int) - 1 = -1 from rfl]
        go_wp2_with fail
        have hzr := Lib.hid (ZeRel.start HSH.out)
        obtain ⟨wo, hwo⟩ : ∃ wo : World, wo = wr := ⟨_, rfl⟩
        have HWO := Lib.hid hwo
        clear hwo
        go_loopw [9] (fun i wr => ∃ (k : Nat) (G : List Nat), 1 ≤ k ∧ k ≤ s ∧ i = .int .i64 (k : Int) ∧ Dr (putRow W0 g' G) wr ∧ ZeRel F' n s k G) (fun i _ => s - (intOf i).toNat)
        case atStart => exact ⟨1, G, by omega, by omega, rfl, ⟨kd, HKD.out⟩, hzr.out⟩
        case round =>
          clear hvr hsr hfr hcr HKD HSH hzr HWO
          clear wo
          clear G kd
          obtain ⟨k, G, hk1, hk2, rfl, ⟨kd, hkd⟩, hsh⟩ := hrel
          have hvr : wr.cell? ⟨b, o + 1, none⟩ = some (.slice (some ⟨g', 0, none⟩) (n + s) c) := by
            rw [← hkd]; show (putRow W0 g' G).cell? _ = _; rw [putRow_cell_other _ _ _ _ _ HBG.out]; exact hvW
          have hsr : wr.cell? ⟨b, o, none⟩ = some (.int .i32 st) := by
            rw [← hkd]; show (putRow W0 g' G).cell? _ = _; rw [putRow_cell_other _ _ _ _ _ HBG.out]; exact hsW
          have hfr : wr.frozen? ⟨b, o, none⟩ = false := by
            rw [← hkd]; show (putRow W0 g' G).frozen? _ = _; rw [putRow_frozen_other _ _ _ _ _ HBG.out]; exact hfW
          have HKD := Lib.hid hkd
          have HSH := Lib.hid hsh
          clear hkd hsh
          by_cases hlt : k < s
          · obtain ⟨y, hy⟩ : ∃ y, G[k]? = some y := ⟨_, List.getElem?_eq_getElem (by have := HSH.out.1; have := HL.out; omega)⟩
            have hc2 : wr.cell? ⟨g', k, none⟩ = some (U y) := by rw [← HKD.out]; exact (putRow_cell W0 g' k G hgs.out).trans (by rw [hy]; rfl)
            have hc3 : wr.frozen? ⟨g', k, none⟩ = false := by rw [← HKD.out]; exact putRow_frozen W0 g' k G hgs.out
            have hset := Lib.hid (show wr.setCell ⟨g', k, none⟩ (U 0) = (putRow W0 g' (G.set k 0)).drewN kd by
              rw [← HKD.out]; exact putRow_setCell (W0.drewN kd) g' k 0 G hgs.out)
            clear hy
            go_wp2_with (go_at_call 143; refine (storeU _ _ 0 _ hc2 hc3).mono ?_; rintro e w' ⟨rfl, rfl⟩)
            go_roundw
            case rel => exact ⟨k + 1, G.set k 0, by omega, by omega, by go_num, ⟨kd, hset.out.symm⟩, ZeRel.step HSH.out hlt (by rw [HL.out]; exact c1)⟩
            case measure => simp [intOf]; omega
          · obtain rfl : k = s := by omega
            obtain ⟨y, hy⟩ : ∃ y, G[0]? = some y := ⟨_, List.getElem?_eq_getElem (by have := HSH.out.1; have := HL.out; omega)⟩
            have hc2 : (wr.setCell ⟨b, o, none⟩ (.int .i32 bin)).cell? ⟨g', 0, none⟩ = some (U y) := by
              rw [World.cell?_of_block (Below.heap_setCell wr ⟨b, o, none⟩ _ g' (Ne.symm HBG.out)), ← HKD.out]; exact (putRow_cell W0 g' 0 G hgs.out).trans (by rw [hy]; rfl)
            have hc3 : (wr.setCell ⟨b, o, none⟩ (.int .i32 bin)).frozen? ⟨g', 0, none⟩ = false := by
              rw [World.frozen?_of_block (Below.heap_setCell wr ⟨b, o, none⟩ _ g' (Ne.symm HBG.out)), ← HKD.out]; exact putRow_frozen W0 g' 0 G hgs.out
            have hset := Lib.hid (show (wr.setCell ⟨b, o, none⟩ (.int .i32 bin)).setCell ⟨g', 0, none⟩ (U 1) = (putRow (W0.setCell ⟨b, o, none⟩ (.int .i32 bin)) g' (G.set 0 1)).drewN kd by
              rw [← HKD.out]
              show ((putRow (W0.drewN kd) g' G).setCell _ _).setCell _ _ = _
              rw [putRow_setCell_other _ _ _ _ _ _ HBG.out]
              exact putRow_setCell ((W0.drewN kd).setCell ⟨b, o, none⟩ (.int .i32 bin)) g' 0 1 G (by simpa [World.setCell] using hgs.out))
            have hfin := ZeRel.fin HSH.out hs0 (by rw [HL.out]; exact c1)
            have HF := Lib.hid hfin
            clear hfin hy hlt
            go_wp2_with (go_at_call 143; refine (storeU _ _ 1 _ hc2 hc3).mono ?_; rintro e w' ⟨rfl, rfl⟩)
            (try simp only [Exit.inBlock, Exit.then])
            refine bodyPost_ret (results_none rfl _ _ _) rfl ?_
            exact ⟨rfl, G.set 0 1, by rw [HF.out.1, HL.out]; exact c1, by rw [HF.out.1, HL.out]; exact c2, by rw [HF.out.2, HT.out], nq + 2 + kd, by rw [hset.out, ← HW0.out, ← HG'.out, HW.out, HF.out.1, HL.out]; exact grow_world w b o nq kd _ _ _ _ HB.out⟩
      | succ m =>
        rw [show ((m + 1 : Nat) : Int) - 1 = (m : Int) from by omega]
        obtain ⟨x, hx⟩ : ∃ x, F'[m]? = some x := ⟨_, List.getElem?_eq_getElem (by have := HL.out; omega)⟩
        obtain ⟨y, hy⟩ : ∃ y, G[m + s]? = some y := ⟨_, List.getElem?_eq_getElem (by have := HSH.out.1; have := HL.out; omega)⟩
        have HX := Lib.hid hx
        have hc1 : wr.cell? ⟨g', m, none⟩ = some (U x) := by rw [(hcr.out m).1, HSH.out.2.1 m (by omega), hx]; rfl
        have hc2 : wr.cell? ⟨g', m + s, none⟩ = some (U y) := by rw [(hcr.out (m + s)).1, hy]; rfl
        have hc3 : wr.frozen? ⟨g', m + s, none⟩ = false := (hcr.out (m + s)).2
        have hset := Lib.hid (show wr.setCell ⟨g', m + s, none⟩ (U x) = (putRow W0 g' (G.set (m + s) x)).drewN kd by
          rw [← HKD.out]; exact putRow_setCell (W0.drewN kd) g' (m + s) x G hgs.out)
        clear hx hy
        go_wp2_with fail
        refine wp_region_still_tail 16 (by kernel_rfl) (by kernel_rfl) ?_
        change wpStill _ _ wr.drew (fun a' => wpList _ _ _ _ a' wr.drew) _ _
        generalize hW2 : wr.drew = w2
        have hv2 : w2.cell? ⟨b, o + 1, none⟩ = some (.slice (some ⟨g', 0, none⟩) (n + s) c) := by rw [← hW2]; exact hvr
        have d1 : w2.cell? ⟨g', m, none⟩ = some (U x) := by rw [← hW2]; exact hc1
        have d2 : w2.cell? ⟨g', m + s, none⟩ = some (U y) := by rw [← hW2]; exact hc2
        have d3 : w2.frozen? ⟨g', m + s, none⟩ = false := by rw [← hW2]; exact hc3
        have HW2 := Lib.hid hW2
        clear hW2 hc1 hc2 hc3
        simp only [List.take_succ_cons, List.take_zero, List.drop_succ_cons, List.drop_zero]
        have w1 : IntKind.i64.wrap ((m : Int) + (s : Int)) = (m : Int) + (s : Int) := IntWalk.i64_in _ (by omega)
        have w0 : IntKind.i64.wrap (s : Int) = (s : Int) := IntWalk.i64_in _ (by omega)
        have w1' : ((m : Int) + (s : Int)).toNat = m + s := by omega
        have w2' : (m : Int) + (s : Int) < (n : Int) + (s : Int) := by omega
        have w3 : (0 : Int) ≤ (m : Int) + (s : Int) := by omega
        have w4 : (m : Int) < (n : Int) + (s : Int) := by omega
        repeat still_step
        still_call (load80' _ _ _ d1)
        refine wpStill_nil ?_
        go_wp2_with (go_at_call 143; refine (storeU _ _ _ _ d2 d3).mono ?_; rintro e w' ⟨rfl, rfl⟩)
        go_roundw
        case rel => exact ⟨m, G.set (m + s) x, by omega, rfl, ⟨kd + 1, by rw [← HW2.out, show wr.drew.setCell ⟨g', m + s, none⟩ (U x) = (wr.setCell ⟨g', m + s, none⟩ (U x)).drew from rfl, hset.out]; rfl⟩, ShRel.step HSH.out hs0 HX.out (by rw [HL.out]; exact c1) (by omega)⟩
        case measure => simp [intOf]
end Go.Proofs.YtlpddogcnpokfaaGreat
namespace Go.Proofs.YtlpddogcnpokfaaGreat
open Go.RowKit

theorem Dr.refl (w : World) : Dr w w := ⟨0, rfl⟩
theorem Dr.drewN {w a : World} (h : Dr w a) (n : Nat) : Dr w (a.drewN n) := by
  obtain ⟨k, rfl⟩ := h; exact ⟨k + n, by rw [World.drewN_drewN]⟩
theorem Dr.drew {w a : World} (h : Dr w a) : Dr w a.drew := h.drewN 1

/-- the loop behind the end: zeros from 'n' on, below 'k' -/
def ZaRel (F : List Nat) (n k : Nat) (G : List Nat) : Prop := G.length = F.length ∧ (∀ j, j < n → G[j]? = F[j]?) ∧ (∀ j, n ≤ j → j < k → G[j]? = some 0)
theorem ZaRel.start (F : List Nat) (n : Nat) : ZaRel F n n F := ⟨rfl, fun _ _ => rfl, fun j h1 h2 => by omega⟩
theorem ZaRel.step {F G : List Nat} {n k : Nat} (h : ZaRel F n k G) (hn : n ≤ k) (hk : k < F.length) : ZaRel F n (k + 1) (G.set k 0) := by
  obtain ⟨h1, h2, h3⟩ := h
  refine ⟨by simpa using h1, fun j hj => ?_, fun j hj hj2 => ?_⟩
  · rw [List.getElem?_set_ne (by omega)]; exact h2 j hj
  · by_cases e : j = k
    · subst e; rw [List.getElem?_set_self (by omega)]
    · rw [List.getElem?_set_ne (by omega)]; exact h3 j hj (by omega)
theorem ZaRel.fin {F G : List Nat} {n k : Nat} (h : ZaRel F n (k + 1) G) (hn : n ≤ k) (hk : k < F.length) :
    (G.set k 1).length = F.length ∧ (G.set k 1).take (k + 1) = F.take n ++ (List.replicate (k - n) 0 ++ [1]) := by
  obtain ⟨h1, h2, h3⟩ := h
  refine ⟨by simpa using h1, ?_⟩
  apply List.ext_getElem?
  intro j
  by_cases hj : j < k + 1
  · rw [List.getElem?_take_of_lt hj]
    by_cases hjn : j < n
    · rw [List.getElem?_append_left (by simp; omega), List.getElem?_set_ne (by omega), h2 j hjn, List.getElem?_take_of_lt hjn]
    · rw [List.getElem?_append_right (by simp; omega)]
      have hl : (F.take n).length = n := by simp; omega
      rw [hl]
      by_cases e : j = k
      · subst e
        rw [List.getElem?_set_self (by omega), List.getElem?_append_right (by simp)]
        simp
      · rw [List.getElem?_set_ne (by omega), h3 j (by omega) hj, List.getElem?_append_left (by simp; omega), List.getElem?_replicate, if_pos (by omega)]
  · rw [List.getElem?_eq_none (by simp; omega), List.getElem?_eq_none (by simp; omega)]

set_option maxRecDepth 100000 in
set_option maxHeartbeats 1000000 in
theorem record121_after (b o g n k : Nat) (bin st : Int) (F : List Nat) (w : World) (hs : w.cell? ⟨b, o, none⟩ = some (.int .i32 st))
    (hv : w.cell? ⟨b, o + 1, none⟩ = some (.slice (some ⟨g, 0, none⟩) n F.length)) (hg : w.heap[g]? = some (rowObj F)) (hbg : b ≠ g)
    (hf1 : w.frozen? ⟨b, o + 1, none⟩ = false)
    (h0 : 0 < n) (s1 : -1130000000 ≤ st) (s2 : bin ≤ 1130000000) (hk : bin - st = (k : Int)) (hnk : n ≤ k) (hroom : k < F.length) (hk2 : k < 1000) (_hF : F.length ≤ 9223372036854775807) :
    Calls Tryz.prog 121 #[.pointer (some ⟨b, o, none⟩), .int .i32 bin] w fun e w' => e = .returned (.tuple #[]) ∧ ∃ F', F'.length = F.length ∧ F'.take (k + 1) = F.take n ++ (List.replicate (k - n) 0 ++ [1]) ∧
      Dr (putRow (w.setCell ⟨b, o + 1, none⟩ (.slice (some ⟨g, 0, none⟩) (k + 1) F.length)) g F') w' := by
  have hz : ((n : Int) == 0) = false := by simp; omega
  have q1 : st ≤ bin := by omega
  have q2 : ¬ bin < st := by omega
  have q3 : ¬ (bin ≤ st + (n : Int) - 1) := by omega
  have q4 : st + (n : Int) - 1 < bin := by omega
  have q6 : (k : Int) < (F.length : Int) := by omega
  have q7 : decide (bin ≤ st + (n : Int) - 1) = false := by simpa using q4
  have q8 : decide (bin < st) = false := by simpa using q1
  go_enter Tryz.func121, Tryz.ntmps121
  go_wp2_with fail
  go_quiet (fail)
  go_wp2_with fail
  have hq : IntKind.i32.wrap (bin - st) = (k : Int) := by rw [hk]; exact IntWalk.i32_in _ (by omega)
  have hq2 : IntKind.i32.wrap (k : Int) = (k : Int) := IntWalk.i32_in _ (by omega)
  have hq3 : IntKind.i64.wrap (k : Int) = (k : Int) := IntWalk.i64_in _ (by omega)
  obtain ⟨w0, hW0⟩ : ∃ w0, w0 = w.drewN nq := ⟨_, rfl⟩
  have hs0 : w0.cell? ⟨b, o, none⟩ = some (.int .i32 st) := by rw [hW0]; exact hs
  have hv0 : w0.cell? ⟨b, o + 1, none⟩ = some (.slice (some ⟨g, 0, none⟩) n F.length) := by rw [hW0]; exact hv
  rw [← hW0]
  go_quiet (fail)
  go_wp2_with fail
  obtain ⟨w1, hW1⟩ : ∃ w1, w1 = w0.drewN nq := ⟨_, rfl⟩
  rw [← hW1]
  refine wp_region_still_tail 15 (by kernel_rfl) (by kernel_rfl) ?_
  change wpStill _ _ w1.drew (fun a' => wpList _ _ _ _ a' w1.drew) _ _
  obtain ⟨m0, hW'⟩ : Dr w w1.drew := by rw [hW1, hW0]; exact (((Dr.refl w).drewN _).drewN _).drew
  have hW := hW'.symm
  clear hW'
  have hv2 : w1.drew.cell? ⟨b, o + 1, none⟩ = some (.slice (some ⟨g, 0, none⟩) n F.length) := by rw [hW]; exact hv
  have hs2 : w1.drew.cell? ⟨b, o, none⟩ = some (.int .i32 st) := by rw [hW]; exact hs
  have hfv2 : w1.drew.frozen? ⟨b, o + 1, none⟩ = false := by rw [hW]; exact hf1
  have hg2 : w1.drew.heap[g]? = some (rowObj F) := by rw [hW]; exact hg
  generalize w1.drew = w2 at *
  have HW := Lib.hid hW
  have hq4 : IntKind.i32.wrap ((k : Int) + 1) = (k : Int) + 1 := IntWalk.i32_in _ (by omega)
  clear hW hW1 hW0 hs0 hv0 hs hv hg hf1
  have i1 : (0 : Int) ≤ (k : Int) + 1 := by omega
  have i2 : (k : Int) + 1 ≤ (F.length : Int) := by omega
  simp only [List.take_succ_cons, List.take_zero, List.drop_succ_cons, List.drop_zero]
  repeat still_step
  refine wpStill_nil ?_
  go_wp2_with fail
  have hsW : (w2.setCell ⟨b, o + 1, none⟩ (.slice (some ⟨g, 0, none⟩) (k + 1) F.length)).cell? ⟨b, o, none⟩ = some (.int .i32 st) := by go_simp
  have hvW : (w2.setCell ⟨b, o + 1, none⟩ (.slice (some ⟨g, 0, none⟩) (k + 1) F.length)).cell? ⟨b, o + 1, none⟩ = some (.slice (some ⟨g, 0, none⟩) (k + 1) F.length) := by go_simp
  have hgW : (w2.setCell ⟨b, o + 1, none⟩ (.slice (some ⟨g, 0, none⟩) (k + 1) F.length)).heap[g]? = some (rowObj F) := by
    rw [Below.heap_setCell _ _ _ _ (by simpa using hbg.symm)]; exact hg2
  generalize hW3 : w2.setCell ⟨b, o + 1, none⟩ (.slice (some ⟨g, 0, none⟩) (k + 1) F.length) = W0 at *
  have HW3 := Lib.hid hW3
  have HGW := Lib.hid hgW
  have hgs := Lib.hid (heap_lt hgW)
  have HBG := Lib.hid hbg
  have HK := Lib.hid hk
  have HQ := Lib.hid hq
  clear hW3 hgW hbg hs2 hv2 hfv2 hg2 hq4 i1 i2
  go_loopw [10] (fun i wr => ∃ (m : Nat) (G : List Nat), n ≤ m ∧ m ≤ k + 1 ∧ i = .int .i64 (m : Int) ∧ Dr (putRow W0 g G) wr ∧ ZaRel F n m G) (fun i _ => k + 1 - (intOf i).toNat)
  case atStart => exact ⟨n, F, by omega, by omega, v_int (by omega), ⟨0, by rw [putRow_same _ _ _ HGW.out]; rfl⟩, ZaRel.start F n⟩
  case round =>
    obtain ⟨m, G, hm1, hm2, rfl, ⟨kd, hkd⟩, hsh⟩ := hrel
    have hvr : wr.cell? ⟨b, o + 1, none⟩ = some (.slice (some ⟨g, 0, none⟩) (k + 1) F.length) := by
      rw [← hkd]; show (putRow W0 g G).cell? _ = _; rw [putRow_cell_other _ _ _ _ _ HBG.out]; exact hvW
    have hsr : wr.cell? ⟨b, o, none⟩ = some (.int .i32 st) := by
      rw [← hkd]; show (putRow W0 g G).cell? _ = _; rw [putRow_cell_other _ _ _ _ _ HBG.out]; exact hsW
    have HKD := Lib.hid hkd
    have HSH := Lib.hid hsh
    clear hkd hsh
    by_cases hlt : m < k + 1
    · obtain ⟨y, hy⟩ : ∃ y, G[m]? = some y := ⟨_, List.getElem?_eq_getElem (by have := HSH.out.1; omega)⟩
      have hc2 : wr.cell? ⟨g, m, none⟩ = some (U y) := by rw [← HKD.out]; exact (putRow_cell W0 g m G hgs.out).trans (by rw [hy]; rfl)
      have hc3 : wr.frozen? ⟨g, m, none⟩ = false := by rw [← HKD.out]; exact putRow_frozen W0 g m G hgs.out
      have hset := Lib.hid (show wr.setCell ⟨g, m, none⟩ (U 0) = (putRow W0 g (G.set m 0)).drewN kd by
        rw [← HKD.out]; exact putRow_setCell (W0.drewN kd) g m 0 G hgs.out)
      clear hy
      go_wp2_with (go_at_call 143; refine (storeU _ _ 0 _ hc2 hc3).mono ?_; rintro e w' ⟨rfl, rfl⟩)
      go_roundw
      case rel => exact ⟨m + 1, G.set m 0, by omega, by omega, by go_num, ⟨kd, hset.out.symm⟩, ZaRel.step HSH.out hm1 (by omega)⟩
      case measure => simp [intOf]; omega
    · obtain rfl : m = k + 1 := by omega
      obtain ⟨y, hy⟩ : ∃ y, G[k]? = some y := ⟨_, List.getElem?_eq_getElem (by have := HSH.out.1; omega)⟩
      have HFIN := Lib.hid (ZaRel.fin HSH.out hnk hroom)
      clear hlt hm1 hm2
      go_wp2_with fail
      refine wp_region_still_tail 11 (by kernel_rfl) (by kernel_rfl) ?_
      change wpStill _ _ wr.drew (fun a' => wpList _ _ _ _ a' wr.drew) _ _
      have hv4 : wr.drew.cell? ⟨b, o + 1, none⟩ = some (.slice (some ⟨g, 0, none⟩) (k + 1) F.length) := hvr
      have hs4 : wr.drew.cell? ⟨b, o, none⟩ = some (.int .i32 st) := hsr
      have hc2 : wr.drew.cell? ⟨g, k, none⟩ = some (U y) := by rw [← HKD.out]; exact (putRow_cell W0 g k G hgs.out).trans (by rw [hy]; rfl)
      have hc3 : wr.drew.frozen? ⟨g, k, none⟩ = false := by rw [← HKD.out]; exact putRow_frozen W0 g k G hgs.out
      have hset := Lib.hid (show wr.drew.setCell ⟨g, k, none⟩ (U 1) = (putRow W0 g (G.set k 1)).drewN (kd + 1) by
        rw [← HKD.out]; exact putRow_setCell (W0.drewN (kd + 1)) g k 1 G hgs.out)
      clear hy hvr hsr
      generalize wr.drew = w4 at *
      have i1 : (k : Int) < (k : Int) + 1 := by omega
      have i2 : (0 : Int) ≤ (k : Int) := by omega
      have hk' := HK.out
      simp only [List.take_succ_cons, List.take_zero, List.drop_succ_cons, List.drop_zero]
      repeat still_step
      refine wpStill_nil ?_
      go_wp2_with (go_at_call 143; refine (storeU _ _ 1 _ hc2 hc3).mono ?_; rintro e w' ⟨rfl, rfl⟩)
      (try simp only [Exit.inBlock, Exit.then])
      refine bodyPost_ret (results_none rfl _ _ _) rfl ?_
      exact ⟨rfl, G.set k 1, HFIN.out.1, HFIN.out.2, m0 + (kd + 1), by rw [hset.out, ← HW3.out, HW.out, ← World.drewN_drewN]; rfl⟩
end Go.Proofs.YtlpddogcnpokfaaGreat
namespace Go.Proofs.YtlpddogcnpokfaaGreat
open Go.RowKit

theorem alloc_new (w : World) (O : Obj) : (w.alloc O).heap[w.heap.size]? = some O := by
  show (w.heap.push O)[w.heap.size]? = some O
  rw [Array.getElem?_push, if_pos rfl]
theorem alloc_size (w : World) (O : Obj) : (w.alloc O).heap.size = w.heap.size + 1 := by show (w.heap.push O).size = _; simp
theorem setCell_size (w : World) (a : Addr) (v : Value) : (w.setCell a v).heap.size = w.heap.size := by unfold World.setCell; simp

theorem dr_of {A B : World} (m : Nat) (h1 : A.heap = B.heap) (h2 : A.tape = B.tape) (h3 : A.os = B.os) (h4 : A.output = B.output) (h5 : A.drawn + m = B.drawn) : A.drewN m = B := by
  cases A; cases B
  simp only at h1 h2 h3 h4 h5
  subst h1 h2 h3 h4
  simp only [World.drewN]
  congr 1

theorem longer_world (w : World) (b o j : Nat) (v : Value) (O O2 : Obj) (G : List Nat) :
    (((w.setCell ⟨b, o + 1, none⟩ v).alloc O).alloc (rowObj G)).drewN (j + 2) =
      putRow (((((w.drewN j).setCell ⟨b, o + 1, none⟩ v).alloc O).alloc O2).drew.drew) ((w.drewN j).heap.size + 1) G := by
  refine dr_of _ ?_ rfl rfl rfl ?_
  · apply Array.ext_getElem?
    intro i
    simp only [World.alloc, World.setCell, World.drew, World.drewN, putRow, Array.getElem?_push, Array.getElem?_setIfInBounds, Array.getElem?_modify, Array.size_modify, Array.size_push]
    by_cases h1 : i = w.heap.size + 1
    · subst h1
      simp
    · have h1' : ¬ w.heap.size + 1 = i := fun e => h1 e.symm
      simp [h1, h1']
  · simp only [World.alloc, World.setCell, World.drew, World.drewN, putRow]; omega

theorem run_made (w : World) (m : Nat) (hm : m ≤ 1000) :
    (Instr.makeSlice 165 (.int .i64 (m : Int)) (.int .i64 (m : Int))).run Tryz.prog w = .ok (.slice (some ⟨w.heap.size, 0, none⟩) m m) (w.alloc (rowObj (List.replicate m 0))) := by
  obtain ⟨i, hi, hz, hs, hb⟩ := info151
  have h := run_make (P := Tryz.prog) (w := w) 165 151 i _ Tryz.underlying165 hi hz .i64 .i64 (m : Int) (m : Int) (by omega) (by omega) (by rw [hb]; omega) (by omega)
  rw [h, hs]
  have e : madeCells (Value.agg #[.int .u64 0]).cells ((m : Int).toNat * 1) = ((List.replicate m 0).map U).toArray := by
    unfold madeCells
    apply Array.ext_getElem?
    intro i
    simp [Value.cells, U]
    by_cases h : i < m <;> simp [h, Nat.mod_one]
  rw [e]
  simp only [Int.toNat_natCast]
  rfl

theorem run_grow2 (w : World) (ty : TypeId) (g g2 n m : Nat) (F : List Nat) (hg : w.heap[g]? = some (rowObj F)) (hg2 : w.heap[g2]? = some (rowObj (List.replicate m 0))) (hn : n ≤ F.length) (hk : F.length < n + m) (hnk : n + m ≤ 1000) :
    ∃ c, n + m ≤ c ∧ c ≤ maxLen ∧ (Builtin.append_ #[165, 165] ty #[.slice (some ⟨g, 0, none⟩) n F.length, .slice (some ⟨g2, 0, none⟩) m m]).run Tryz.prog w =
      .ok (.slice (some ⟨w.heap.size, 0, none⟩) (n + m) c) (w.drew.alloc (rowObj (grownRow F n c))) := by
  obtain ⟨i, hi, hz, hs, hb⟩ := info151
  have cells : ∀ (g n : Nat) (F : List Nat), w.heap[g]? = some (rowObj F) → n ≤ F.length → ∀ j v, ((F.take n).map U)[j]? = some v → w.cell? ((⟨g, 0, none⟩ : Addr).add j) = some v := by
    intro g n F hg hn j v hj
    have hc := row_cell (i := j) hg
    have : w.cell? ((⟨g, 0, none⟩ : Addr).add j) = w.cell? ⟨g, j, none⟩ := by
      unfold Addr.add
      by_cases hj0 : j = 0
      · subst hj0; rfl
      · rw [if_neg hj0]; simp only [Nat.zero_add]
    rw [this, hc]
    rw [List.getElem?_map] at hj
    have hjn : j < n := by
      by_cases h : j < n
      · exact h
      · rw [List.getElem?_eq_none (by simp; omega)] at hj; cases hj
    rw [List.getElem?_take_of_lt hjn] at hj
    exact hj
  have c1 := cells g n F hg hn
  have c2 := cells g2 m (List.replicate m 0) hg2 (by simp)
  have hc := nextcap_le (n + m) F.length hnk (by omega)
  have hr := run_append_grow (P := Tryz.prog) (w := w) 165 ty 151 i _ Tryz.underlying165 hi hz ⟨g, 0, none⟩ n F.length ((F.take n).map U) (by rw [hs]; simp; omega) c1 ⟨g2, 0, none⟩ m m (((List.replicate m 0).take m).map U) (by rw [hs]; simp) c2 hk (by omega) (by rw [hb]; omega)
  refine ⟨grownCap w (n + m) F.length 151, grownCap_ge .., grownCap_le_maxLen _ _ _ _ (by unfold maxLen; omega), ?_⟩
  rw [hr, zeroCells_U]
  have e : (List.replicate m 0).take m = List.replicate m 0 := by simp
  rw [e, grown_eq w F n m _ (grownCap_ge w (n + m) F.length 151)]

theorem grownRow_set (F : List Nat) (n k c : Nat) (hn : n ≤ F.length) (hnk : n ≤ k) (hk : k + 1 ≤ c) :
    ((grownRow F n c).set k 1).length = c ∧ ((grownRow F n c).set k 1).take (k + 1) = F.take n ++ (List.replicate (k - n) 0 ++ [1]) := by
  have hl := grownRow_length F n c hn (by omega)
  refine ⟨by simpa using hl, ?_⟩
  have h : ZaRel (grownRow F n c) n (k + 1) (grownRow F n c) := by
    refine ⟨rfl, fun _ _ => rfl, fun j h1 h2 => ?_⟩
    unfold grownRow
    rw [List.getElem?_append_right (by simp; omega), List.getElem?_replicate, if_pos (by simp; omega)]
  have := (ZaRel.fin h hnk (by omega)).2
  rw [this, grownRow_take F n c hn]

set_option maxRecDepth 100000 in
set_option maxHeartbeats 1000000 in
theorem record121_longer (b o g n k : Nat) (bin st : Int) (F : List Nat) (w : World) (hs : w.cell? ⟨b, o, none⟩ = some (.int .i32 st))
    (hv : w.cell? ⟨b, o + 1, none⟩ = some (.slice (some ⟨g, 0, none⟩) n F.length)) (hg : w.heap[g]? = some (rowObj F)) (_hbg : b ≠ g) (hb : b < w.heap.size)
    (hf1 : w.frozen? ⟨b, o + 1, none⟩ = false)
    (h0 : 0 < n) (hnF : n ≤ F.length) (s1 : -1130000000 ≤ st) (s2 : bin ≤ 1130000000) (hk : bin - st = (k : Int)) (hnk : n ≤ k) (hroom : F.length ≤ k) (hk2 : k < 1000) :
    Calls Tryz.prog 121 #[.pointer (some ⟨b, o, none⟩), .int .i32 bin] w fun e w' => e = .returned (.tuple #[]) ∧ ∃ G : List Nat, k + 1 ≤ G.length ∧ G.length ≤ maxLen ∧ G.take (k + 1) = F.take n ++ (List.replicate (k - n) 0 ++ [1]) ∧
      Dr (((w.setCell ⟨b, o + 1, none⟩ (.slice (some ⟨w.heap.size + 1, 0, none⟩) (k + 1) G.length)).alloc (rowObj (List.replicate (k + 1 - n) 0))).alloc (rowObj G)) w' := by
  have hz : ((n : Int) == 0) = false := by simp; omega
  have q1 : st ≤ bin := by omega
  have q2 : ¬ bin < st := by omega
  have q3 : ¬ (bin ≤ st + (n : Int) - 1) := by omega
  have q4 : st + (n : Int) - 1 < bin := by omega
  have q6 : ¬ ((k : Int) < (F.length : Int)) := by omega
  have q7 : decide (bin ≤ st + (n : Int) - 1) = false := by simpa using q4
  have q8 : decide (bin < st) = false := by simpa using q1
  go_enter Tryz.func121, Tryz.ntmps121
  go_wp2_with fail
  go_quiet (fail)
  go_wp2_with fail
  have hq : IntKind.i32.wrap (bin - st) = (k : Int) := by rw [hk]; exact IntWalk.i32_in _ (by omega)
  have hq2 : IntKind.i32.wrap (k : Int) = (k : Int) := IntWalk.i32_in _ (by omega)
  have hq3 : IntKind.i64.wrap (k : Int) = (k : Int) := IntWalk.i64_in _ (by omega)
  obtain ⟨w0, hW0⟩ : ∃ w0, w0 = w.drewN nq := ⟨_, rfl⟩
  have hs0 : w0.cell? ⟨b, o, none⟩ = some (.int .i32 st) := by rw [hW0]; exact hs
  have hv0 : w0.cell? ⟨b, o + 1, none⟩ = some (.slice (some ⟨g, 0, none⟩) n F.length) := by rw [hW0]; exact hv
  rw [← hW0]
  go_quiet (fail)
  go_wp2_with fail
  obtain ⟨w1, hW1⟩ : ∃ w1, w1 = w0.drewN nq := ⟨_, rfl⟩
  rw [← hW1]
  refine wp_region_still_tail 14 (by kernel_rfl) (by kernel_rfl) ?_
  change wpStill _ _ w1.drew (fun a' => wpList _ _ _ _ a' w1.drew) _ _
  obtain ⟨m0, hW'⟩ : Dr w w1.drew := by rw [hW1, hW0]; exact (((Dr.refl w).drewN _).drewN _).drew
  have hW := hW'.symm
  clear hW'
  have hv2 : w1.drew.cell? ⟨b, o + 1, none⟩ = some (.slice (some ⟨g, 0, none⟩) n F.length) := by rw [hW]; exact hv
  have hs2 : w1.drew.cell? ⟨b, o, none⟩ = some (.int .i32 st) := by rw [hW]; exact hs
  have hfv2 : w1.drew.frozen? ⟨b, o + 1, none⟩ = false := by rw [hW]; exact hf1
  have hg2 : w1.drew.heap[g]? = some (rowObj F) := by rw [hW]; exact hg
  have hb2 : b < w1.drew.heap.size := by rw [hW]; exact hb
  generalize w1.drew = w2 at *
  have HW := Lib.hid hW
  have HG2 := Lib.hid hg2
  clear hW hW1 hW0 hs0 hv0 hs hv hg hf1 hg2
  obtain ⟨m, hm⟩ : ∃ m : Nat, m = k + 1 - n := ⟨_, rfl⟩
  have hq4 : IntKind.i64.wrap ((k : Int) - (n : Int)) = (k : Int) - (n : Int) := IntWalk.i64_in _ (by omega)
  have hq5 : IntKind.i64.wrap ((k : Int) - (n : Int) + 1) = (m : Int) := by rw [show (k : Int) - (n : Int) + 1 = (m : Int) from by omega]; exact IntWalk.i64_in _ (by omega)
  have hmk := fun w => run_made w m (by omega)
  have HM := Lib.hid hm
  clear hm
  simp only [List.take_succ_cons, List.take_zero, List.drop_succ_cons, List.drop_zero]
  repeat still_step
  refine wpStill_nil ?_
  obtain ⟨c, c1, c2, hrun⟩ := run_grow2 (w2.alloc (rowObj (List.replicate m 0))) 165 g w2.heap.size n m F (by rw [Below.heap_alloc _ _ _ (heap_lt HG2.out)]; exact HG2.out) (alloc_new _ _) hnF (by have := HM.out; omega) (by have := HM.out; omega)
  have HRUN := Lib.hid hrun
  clear hrun
  have hb3 : b < w2.heap.size + 1 := by omega
  have hb4 : b ≠ w2.heap.size := by omega
  have hb5 : b ≠ w2.heap.size + 1 := by omega
  go_wp2_with (at_builtin; refine Lib.wpList_append_run _ rfl (.tmp 254) (.tmp 255) 165 165 rfl (.slice (some ⟨g, 0, none⟩) n F.length) (.slice (some ⟨w2.heap.size, 0, none⟩) m m) rfl rfl _ _ HRUN.out ?_)
  have hvW : ((((w2.setCell ⟨b, o + 1, none⟩ (.slice (some ⟨w2.heap.size + 1, 0, none⟩) (n + m) c)).alloc (rowObj (List.replicate m 0))).alloc (rowObj (grownRow F n c))).drew).cell? ⟨b, o + 1, none⟩ = some (.slice (some ⟨w2.heap.size + 1, 0, none⟩) (n + m) c) := by go_simp
  have hsW : ((((w2.setCell ⟨b, o + 1, none⟩ (.slice (some ⟨w2.heap.size + 1, 0, none⟩) (n + m) c)).alloc (rowObj (List.replicate m 0))).alloc (rowObj (grownRow F n c))).drew).cell? ⟨b, o, none⟩ = some (.int .i32 st) := by go_simp
  have hgW : ((((w2.setCell ⟨b, o + 1, none⟩ (.slice (some ⟨w2.heap.size + 1, 0, none⟩) (n + m) c)).alloc (rowObj (List.replicate m 0))).alloc (rowObj (grownRow F n c))).drew).heap[w2.heap.size + 1]? = some (rowObj (grownRow F n c)) := by
    have h := alloc_new ((w2.setCell ⟨b, o + 1, none⟩ (.slice (some ⟨w2.heap.size + 1, 0, none⟩) (n + m) c)).alloc (rowObj (List.replicate m 0))) (rowObj (grownRow F n c))
    rw [alloc_size, setCell_size] at h
    exact h
  have HL := Lib.hid (grownRow_length F n c hnF (by omega))
  have HFIN := Lib.hid (grownRow_set F n k c hnF hnk (by have := HM.out; omega))
  have HNM := Lib.hid (show n + m = k + 1 by have := HM.out; omega)
  generalize hW3 : (((w2.setCell ⟨b, o + 1, none⟩ (.slice (some ⟨w2.heap.size + 1, 0, none⟩) (n + m) c)).alloc (rowObj (List.replicate m 0))).alloc (rowObj (grownRow F n c))).drew = W0 at *
  generalize hg' : w2.heap.size + 1 = g' at *
  have HW3 := Lib.hid hW3
  have HG' := Lib.hid hg'
  have HK := Lib.hid hk
  obtain ⟨y, hy⟩ : ∃ y, (grownRow F n c)[k]? = some y := ⟨_, List.getElem?_eq_getElem (by have := HL.out; have := HM.out; omega)⟩
  clear hW3 hg' hs2 hv2 hfv2 hb3 hb4 hb5 HG2 HRUN hmk
  refine wp_region_still_tail 11 (by kernel_rfl) (by kernel_rfl) ?_
  change wpStill _ _ W0.drew (fun a' => wpList _ _ _ _ a' W0.drew) _ _
  have hv4 : W0.drew.cell? ⟨b, o + 1, none⟩ = some (.slice (some ⟨g', 0, none⟩) (n + m) c) := hvW
  have hs4 : W0.drew.cell? ⟨b, o, none⟩ = some (.int .i32 st) := hsW
  have hc2 : W0.drew.cell? ⟨g', k, none⟩ = some (U y) := (row_cell (w := W0) hgW).trans (by rw [hy]; rfl)
  have hc3 : W0.drew.frozen? ⟨g', k, none⟩ = false := row_frozen (w := W0) hgW
  have hset := Lib.hid (show W0.drew.setCell ⟨g', k, none⟩ (U 1) = putRow W0.drew g' ((grownRow F n c).set k 1) from row_setCell (w := W0.drew) hgW)
  clear hy hvW hsW hgW
  have HW4 := Lib.hid (show W0.drew = W0.drew from rfl)
  have i1 : (k : Int) < (n : Int) + (m : Int) := by have := HNM.out; omega
  have i2 : (0 : Int) ≤ (k : Int) := by omega
  have hk' := HK.out
  generalize hw4 : W0.drew = w4 at *
  have HW5 := Lib.hid hw4
  clear hw4 HW4
  simp only [List.take_succ_cons, List.take_zero, List.drop_succ_cons, List.drop_zero]
  repeat still_step
  refine wpStill_nil ?_
  go_wp2_with (go_at_call 143; refine (storeU _ _ 1 _ hc2 hc3).mono ?_; rintro e w' ⟨rfl, rfl⟩)
  (try simp only [Exit.inBlock, Exit.then])
  refine bodyPost_end (results_none rfl _ _ _) rfl ?_
  refine ⟨rfl, (grownRow F n c).set k 1, by rw [HFIN.out.1, ← HNM.out]; exact c1, by rw [HFIN.out.1]; exact c2, HFIN.out.2, m0 + 2, ?_⟩
  rw [hset.out, ← HW5.out, ← HW3.out, ← HG'.out, HFIN.out.1, HW.out, ← HNM.out, Nat.add_sub_cancel_left]
  exact longer_world w b o m0 _ _ _ _
end Go.Proofs.YtlpddogcnpokfaaGreat
namespace Go.Proofs.YtlpddogcnpokfaaGreat
open Go.RowKit

/-- what a call leaves as it was: all blocks that lay there, but those of a list -/
structure Kept (S : List Nat) (w w' : World) : Prop where
  os : w'.os = w.os
  tape : w'.tape = w.tape
  output : w'.output = w.output
  size : w.heap.size ≤ w'.heap.size
  block : ∀ k, k < w.heap.size → k ∉ S → w'.heap[k]? = w.heap[k]?

theorem Kept.refl (S : List Nat) (w : World) : Kept S w w := ⟨rfl, rfl, rfl, Nat.le_refl _, fun _ _ _ => rfl⟩
theorem Kept.trans {S : List Nat} {a b c : World} (h : Kept S a b) (k : Kept S b c) : Kept S a c :=
  ⟨k.os.trans h.os, k.tape.trans h.tape, k.output.trans h.output, Nat.le_trans h.size k.size, fun i hi hs => (k.block i (Nat.lt_of_lt_of_le hi h.size) hs).trans (h.block i hi hs)⟩
theorem Kept.mono {S S' : List Nat} {a b : World} (h : Kept S a b) (hs : ∀ k, k ∈ S → k ∈ S' ∨ a.heap.size ≤ k) : Kept S' a b :=
  ⟨h.os, h.tape, h.output, h.size, fun i hi hn => h.block i hi fun hm => (hs i hm).elim hn (fun h => by omega)⟩
theorem Kept.dr {S : List Nat} {a b c : World} (h : Kept S a b) (hd : Dr b c) : Kept S a c := by
  obtain ⟨k, rfl⟩ := hd
  exact ⟨h.os, h.tape, h.output, h.size, h.block⟩
theorem Kept.setCell {S : List Nat} {a b : World} (h : Kept S a b) {p : Addr} (hp : p.block ∈ S ∨ a.heap.size ≤ p.block) (v : Value) : Kept S a (b.setCell p v) :=
  ⟨h.os, h.tape, h.output, by rw [setCell_size]; exact h.size, fun i hi hn => by
    rw [Below.heap_setCell _ _ _ _ (by rintro rfl; exact hp.elim hn (fun h => by omega))]; exact h.block i hi hn⟩
theorem Kept.alloc {S : List Nat} {a b : World} (h : Kept S a b) (O : Obj) : Kept S a (b.alloc O) :=
  ⟨h.os, h.tape, h.output, by rw [alloc_size]; have := h.size; omega, fun i hi hn => by
    rw [Below.heap_alloc _ _ _ (Nat.lt_of_lt_of_le hi h.size)]; exact h.block i hi hn⟩
theorem Kept.putRow {S : List Nat} {a b : World} (h : Kept S a b) {g : Nat} (hg : g ∈ S ∨ a.heap.size ≤ g) (F : List Nat) : Kept S a (putRow b g F) :=
  ⟨h.os, h.tape, h.output, by rw [putRow_size]; exact h.size, fun i hi hn => by
    rw [putRow_heap _ _ _ _ (by rintro rfl; exact hg.elim hn (fun h => by omega))]; exact h.block i hi hn⟩
theorem Kept.cell {S : List Nat} {a b : World} (h : Kept S a b) {k i : Nat} (hk : k < a.heap.size) (hs : k ∉ S) : b.cell? ⟨k, i, none⟩ = a.cell? ⟨k, i, none⟩ :=
  World.cell?_of_block (h.block k hk hs)
theorem Kept.frozen {S : List Nat} {a b : World} (h : Kept S a b) {k i : Nat} (hk : k < a.heap.size) (hs : k ∉ S) : b.frozen? ⟨k, i, none⟩ = a.frozen? ⟨k, i, none⟩ :=
  World.frozen?_of_block (h.block k hk hs)
theorem Kept.below {S : List Nat} {a b : World} (h : Kept S a b) {B : Nat} (hB : B ≤ a.heap.size) (hs : ∀ k, k ∈ S → B ≤ k) : Below B a b :=
  ⟨h.os, h.tape, h.output, h.size, fun k hk => h.block k (by omega) fun hm => by have := hs k hm; omega⟩

/-- a side of a point in memory: where it starts, its counts, and the block of its row -/
def SideAt (w : World) (b o : Nat) (st : Int) (l : List Nat) (og : Option Nat) : Prop :=
  w.cell? ⟨b, o, none⟩ = some (.int .i32 st) ∧
  ((w.cell? ⟨b, o + 1, none⟩ = some (.slice none 0 0) ∧ l = [] ∧ og = none) ∨
    ∃ g F, w.cell? ⟨b, o + 1, none⟩ = some (.slice (some ⟨g, 0, none⟩) l.length F.length) ∧ og = some g ∧ l ≠ [] ∧ w.heap[g]? = some (rowObj F) ∧ g ≠ b ∧ l.length ≤ F.length ∧ F.length ≤ maxLen ∧ F.take l.length = l)

/-- what a measurement in a bucket makes of a side -/
def recSt (st : Int) (l : List Nat) (bin : Int) : Int := if l = [] then bin else if bin < st then bin else st
def recL (st : Int) (l : List Nat) (bin : Int) : List Nat :=
  if l = [] then [1]
  else if bin < st then 1 :: (List.replicate ((st - bin).toNat - 1) 0 ++ l)
  else if bin ≤ st + l.length - 1 then l.modify (bin - st).toNat (· + 1)
  else l ++ (List.replicate ((bin - st).toNat - l.length) 0 ++ [1])

/-- what 'record' may have touched -/
def touched (b : Nat) (og : Option Nat) : List Nat := b :: og.toList

/-- cells of the point's own block beside the side's two -/
def CellsBut (w w' : World) (b o : Nat) : Prop := (∀ i, i ≠ o → i ≠ o + 1 → w'.cell? ⟨b, i, none⟩ = w.cell? ⟨b, i, none⟩) ∧ ∀ i, w'.frozen? ⟨b, i, none⟩ = w.frozen? ⟨b, i, none⟩

theorem take_set_modify (F : List Nat) (n k x : Nat) (hk : k < n) (hn : n ≤ F.length) (hx : F[k]? = some x) : (F.set k (x + 1)).take n = (F.take n).modify k (· + 1) := by
  apply List.ext_getElem?
  intro j
  rw [List.getElem?_modify]
  by_cases hj : j < n
  · rw [List.getElem?_take_of_lt hj, List.getElem?_take_of_lt hj]
    by_cases e : k = j
    · subst e; rw [List.getElem?_set_self (by omega), hx]; simp
    · rw [List.getElem?_set_ne e]; simp only [if_neg e]; cases F[j]? <;> rfl
  · rw [List.getElem?_eq_none (by simp; omega), List.getElem?_eq_none (by simp; omega)]; rfl

theorem cells_of_setCell2 (w : World) (b o : Nat) (v x : Value) : CellsBut w ((w.setCell ⟨b, o + 1, none⟩ v).setCell ⟨b, o, none⟩ x) b o := by
  refine ⟨fun i h1 h2 => ?_, fun i => ?_⟩
  · go_simp
  · go_simp
theorem cells_of_setCell1 (w : World) (b o : Nat) (v : Value) : CellsBut w (w.setCell ⟨b, o + 1, none⟩ v) b o := by
  refine ⟨fun i h1 h2 => ?_, fun i => ?_⟩
  · go_simp
  · go_simp
theorem CellsBut.of_block {w w1 w2 : World} {b o : Nat} (h : CellsBut w w1 b o) (hb : w2.heap[b]? = w1.heap[b]?) : CellsBut w w2 b o :=
  ⟨fun i h1 h2 => (World.cell?_of_block hb).trans (h.1 i h1 h2), fun i => (World.frozen?_of_block hb).trans (h.2 i)⟩
end Go.Proofs.YtlpddogcnpokfaaGreat
namespace Go.Proofs.YtlpddogcnpokfaaGreat
open Go.RowKit

def RecPost (w w' : World) (b o : Nat) (st : Int) (l : List Nat) (og : Option Nat) : Prop :=
  ∃ og', SideAt w' b o st l og' ∧ Kept (touched b og) w w' ∧ CellsBut w w' b o ∧ (og' = og ∨ ∃ g, og' = some g ∧ w.heap.size ≤ g)

theorem RecPost.dr {w w1 w2 : World} {b o : Nat} {st : Int} {l : List Nat} {og : Option Nat} (h : RecPost w w1 b o st l og) (hd : Dr w1 w2) : RecPost w w2 b o st l og := by
  obtain ⟨og', h1, h2, h3, h4⟩ := h
  have h2' := h2.dr hd
  obtain ⟨k, rfl⟩ := hd
  exact ⟨og', h1, h2', h3, h4⟩

theorem post_first (w : World) (b o : Nat) (bin : Int) (hb : b < w.heap.size) (hc0 : (w.cell? ⟨b, o, none⟩).isSome) (hc1 : (w.cell? ⟨b, o + 1, none⟩).isSome) :
    RecPost w (((w.setCell ⟨b, o + 1, none⟩ (.slice (some ⟨w.heap.size, 0, none⟩) 1 1)).setCell ⟨b, o, none⟩ (.int .i32 bin)).alloc (.cells #[.int .u64 1] 151)) b o bin [1] none := by
  obtain ⟨x0, h0⟩ := Option.isSome_iff_exists.1 hc0
  obtain ⟨x1, h1⟩ := Option.isSome_iff_exists.1 hc1
  have hne : b ≠ w.heap.size := by omega
  refine ⟨some w.heap.size, ⟨by go_simp, .inr ⟨w.heap.size, [1], by go_simp, rfl, by simp, ?_, by omega, by simp, by simp [maxLen], rfl⟩⟩, ?_, ?_, .inr ⟨_, rfl, Nat.le_refl _⟩⟩
  · have h := alloc_new ((w.setCell ⟨b, o + 1, none⟩ (.slice (some ⟨w.heap.size, 0, none⟩) 1 1)).setCell ⟨b, o, none⟩ (.int .i32 bin)) (.cells #[.int .u64 1] 151)
    rw [setCell_size, setCell_size] at h
    exact h
  · exact (((Kept.refl _ _).setCell (.inl (by simp [touched])) _).setCell (.inl (by simp [touched])) _).alloc _
  · exact (cells_of_setCell2 w b o _ _).of_block (Below.heap_alloc _ _ _ (by rw [setCell_size, setCell_size]; exact hb))

theorem post_in (w : World) (b o g k : Nat) (st : Int) (l F : List Nat) (hg : w.heap[g]? = some (rowObj F)) (hbg : g ≠ b) (hs : w.cell? ⟨b, o, none⟩ = some (.int .i32 st))
    (hv : w.cell? ⟨b, o + 1, none⟩ = some (.slice (some ⟨g, 0, none⟩) l.length F.length)) (hl : l.length ≤ F.length) (hF : F.length ≤ maxLen) (ht : F.take l.length = l) (hk : k < l.length) (x : Nat) (hx : F[k]? = some x) :
    RecPost w (w.setCell ⟨g, k, none⟩ (U (x + 1))) b o st (l.modify k (· + 1)) (some g) := by
  rw [row_setCell hg]
  refine ⟨some g, ⟨by rw [putRow_cell_other _ _ _ _ _ hbg.symm]; exact hs, .inr ⟨g, F.set k (x + 1), ?_, rfl, ?_, putRow_heap_same _ _ _ (heap_lt hg), hbg, by simpa using hl, by simpa using hF, ?_⟩⟩,
    (Kept.refl _ _).putRow (.inl (by simp [touched])) _, ⟨fun i _ _ => putRow_cell_other _ _ _ _ _ hbg.symm, fun i => putRow_frozen_other _ _ _ _ _ hbg.symm⟩, .inl rfl⟩
  · rw [putRow_cell_other _ _ _ _ _ hbg.symm]; simpa using hv
  · intro h; have := congrArg List.length h; simp at this; subst this; simp at hk
  · rw [List.length_modify, take_set_modify F l.length k x hk hl hx, ht]

theorem post_row (w : World) (b o g : Nat) (bin : Int) (l' F' : List Nat) (n c : Nat) (hbg : g ≠ b) (hgs : g < w.heap.size) (hc0 : (w.cell? ⟨b, o, none⟩).isSome) (hc1 : (w.cell? ⟨b, o + 1, none⟩).isSome)
    (hn : l'.length = n) (hc : F'.length = c) (hl : n ≤ c) (hF : c ≤ maxLen) (ht : F'.take n = l') (hne : l' ≠ []) :
    RecPost w (putRow ((w.setCell ⟨b, o + 1, none⟩ (.slice (some ⟨g, 0, none⟩) n c)).setCell ⟨b, o, none⟩ (.int .i32 bin)) g F') b o bin l' (some g) := by
  obtain ⟨x0, h0⟩ := Option.isSome_iff_exists.1 hc0
  obtain ⟨x1, h1⟩ := Option.isSome_iff_exists.1 hc1
  subst hn hc
  refine ⟨some g, ⟨by rw [putRow_cell_other _ _ _ _ _ hbg.symm]; go_simp, .inr ⟨g, F', by rw [putRow_cell_other _ _ _ _ _ hbg.symm]; go_simp, rfl, hne, putRow_heap_same _ _ _ (by rw [setCell_size, setCell_size]; exact hgs), hbg, hl, hF, ht⟩⟩,
    (((Kept.refl _ _).setCell (.inl (by simp [touched])) _).setCell (.inl (by simp [touched])) _).putRow (.inl (by simp [touched])) _,
    (cells_of_setCell2 w b o _ _).of_block (putRow_heap _ _ _ _ hbg.symm), .inl rfl⟩

theorem post_row1 (w : World) (b o g : Nat) (st : Int) (l' F' : List Nat) (n c : Nat) (hbg : g ≠ b) (hgs : g < w.heap.size) (hs : w.cell? ⟨b, o, none⟩ = some (.int .i32 st)) (hc1 : (w.cell? ⟨b, o + 1, none⟩).isSome)
    (hn : l'.length = n) (hc : F'.length = c) (hl : n ≤ c) (hF : c ≤ maxLen) (ht : F'.take n = l') (hne : l' ≠ []) :
    RecPost w (putRow (w.setCell ⟨b, o + 1, none⟩ (.slice (some ⟨g, 0, none⟩) n c)) g F') b o st l' (some g) := by
  obtain ⟨x1, h1⟩ := Option.isSome_iff_exists.1 hc1
  subst hn hc
  refine ⟨some g, ⟨by rw [putRow_cell_other _ _ _ _ _ hbg.symm]; go_simp, .inr ⟨g, F', by rw [putRow_cell_other _ _ _ _ _ hbg.symm]; go_simp, rfl, hne, putRow_heap_same _ _ _ (by rw [setCell_size]; exact hgs), hbg, hl, hF, ht⟩⟩,
    ((Kept.refl _ _).setCell (.inl (by simp [touched])) _).putRow (.inl (by simp [touched])) _,
    (cells_of_setCell1 w b o _).of_block (putRow_heap _ _ _ _ hbg.symm), .inl rfl⟩

theorem post_grow (w : World) (b o : Nat) (og : Option Nat) (bin : Int) (l' G : List Nat) (n : Nat) (hb : b < w.heap.size) (hc0 : (w.cell? ⟨b, o, none⟩).isSome) (hc1 : (w.cell? ⟨b, o + 1, none⟩).isSome)
    (hn : l'.length = n) (hl : n ≤ G.length) (hF : G.length ≤ maxLen) (ht : G.take n = l') (hne : l' ≠ []) :
    RecPost w (((w.setCell ⟨b, o + 1, none⟩ (.slice (some ⟨w.heap.size, 0, none⟩) n G.length)).setCell ⟨b, o, none⟩ (.int .i32 bin)).alloc (rowObj G)) b o bin l' og := by
  obtain ⟨x0, h0⟩ := Option.isSome_iff_exists.1 hc0
  obtain ⟨x1, h1⟩ := Option.isSome_iff_exists.1 hc1
  have hneb : b ≠ w.heap.size := by omega
  subst hn
  refine ⟨some w.heap.size, ⟨by go_simp, .inr ⟨w.heap.size, G, by go_simp, rfl, hne, ?_, by omega, hl, hF, ht⟩⟩, ?_, ?_, .inr ⟨_, rfl, Nat.le_refl _⟩⟩
  · have h := alloc_new ((w.setCell ⟨b, o + 1, none⟩ (.slice (some ⟨w.heap.size, 0, none⟩) l'.length G.length)).setCell ⟨b, o, none⟩ (.int .i32 bin)) (rowObj G)
    rw [setCell_size, setCell_size] at h
    exact h
  · exact (((Kept.refl _ _).setCell (.inl (by simp [touched])) _).setCell (.inl (by simp [touched])) _).alloc _
  · exact (cells_of_setCell2 w b o _ _).of_block (Below.heap_alloc _ _ _ (by rw [setCell_size, setCell_size]; exact hb))

theorem post_longer (w : World) (b o : Nat) (og : Option Nat) (st : Int) (l' G Z : List Nat) (n : Nat) (hb : b < w.heap.size) (hs : w.cell? ⟨b, o, none⟩ = some (.int .i32 st)) (hc1 : (w.cell? ⟨b, o + 1, none⟩).isSome)
    (hn : l'.length = n) (hl : n ≤ G.length) (hF : G.length ≤ maxLen) (ht : G.take n = l') (hne : l' ≠ []) :
    RecPost w (((w.setCell ⟨b, o + 1, none⟩ (.slice (some ⟨w.heap.size + 1, 0, none⟩) n G.length)).alloc (rowObj Z)).alloc (rowObj G)) b o st l' og := by
  obtain ⟨x1, h1⟩ := Option.isSome_iff_exists.1 hc1
  have hneb : b ≠ w.heap.size := by omega
  have hneb2 : b ≠ w.heap.size + 1 := by omega
  subst hn
  refine ⟨some (w.heap.size + 1), ⟨by go_simp, .inr ⟨w.heap.size + 1, G, by go_simp, rfl, hne, ?_, by omega, hl, hF, ht⟩⟩, ?_, ?_, .inr ⟨_, rfl, by omega⟩⟩
  · have h := alloc_new ((w.setCell ⟨b, o + 1, none⟩ (.slice (some ⟨w.heap.size + 1, 0, none⟩) l'.length G.length)).alloc (rowObj Z)) (rowObj G)
    rw [alloc_size, setCell_size] at h
    exact h
  · exact (((Kept.refl _ _).setCell (.inl (by simp [touched])) _).alloc _).alloc _
  · exact (cells_of_setCell1 w b o _).of_block ((Below.heap_alloc _ _ _ (by rw [alloc_size, setCell_size]; omega)).trans (Below.heap_alloc _ _ _ (by rw [setCell_size]; exact hb)))

theorem len_pos {l : List Nat} (h : l ≠ []) : 0 < l.length := List.length_pos_iff.2 h

/-- A MEASUREMENT IN A BUCKET. -/
theorem record121 (b o : Nat) (bin st : Int) (l : List Nat) (og : Option Nat) (w : World) (h : SideAt w b o st l og) (hb : b < w.heap.size)
    (hf0 : w.frozen? ⟨b, o, none⟩ = false) (hf1 : w.frozen? ⟨b, o + 1, none⟩ = false) (s1 : -1130000000 ≤ st) (s2 : st ≤ 1130000000) (b1 : -1130000000 ≤ bin) (b2 : bin ≤ 1130000000)
    (hlen : (recL st l bin).length ≤ 1000) (hlx : ∀ x, x ∈ l → x < 4611686018427387904) :
    Calls Tryz.prog 121 #[.pointer (some ⟨b, o, none⟩), .int .i32 bin] w fun e w' => e = .returned (.tuple #[]) ∧ RecPost w w' b o (recSt st l bin) (recL st l bin) og := by
  obtain ⟨hs, hr⟩ := h
  rcases hr with ⟨hv, rfl, rfl⟩ | ⟨g, F, hv, rfl, hne, hg, hgb, hlF, hF, ht⟩
  · refine (record121_first b o bin st w hb hs hv hf0 hf1).mono ?_
    rintro e w' ⟨he, rfl⟩
    exact ⟨he, post_first w b o bin hb (by rw [hs]; rfl) (by rw [hv]; rfl)⟩
  · have h0 := len_pos hne
    have hst : recSt st l bin = if bin < st then bin else st := by unfold recSt; rw [if_neg hne]
    have hL : recL st l bin = if bin < st then 1 :: (List.replicate ((st - bin).toNat - 1) 0 ++ l) else if bin ≤ st + l.length - 1 then l.modify (bin - st).toNat (· + 1) else l ++ (List.replicate ((bin - st).toNat - l.length) 0 ++ [1]) := by
      unfold recL; rw [if_neg hne]
    rw [hL] at hlen ⊢
    rw [hst]
    clear hst hL
    by_cases c1 : bin < st
    · rw [if_pos c1] at hlen
      rw [if_pos c1, if_pos c1]
      obtain ⟨s, hsb⟩ : ∃ s : Nat, st - bin = (s : Int) := ⟨(st - bin).toNat, by omega⟩
      have es : (st - bin).toNat = s := by omega
      rw [es] at hlen ⊢
      simp only [List.length_cons, List.length_append, List.length_replicate] at hlen
      have hlen' : (1 :: (List.replicate (s - 1) 0 ++ l)).length = l.length + s := by simp; omega
      by_cases c2 : l.length + s ≤ F.length
      · refine (record121_before b o g l.length s bin st F w hs hv hg hgb.symm hf0 hf1 h0 b1 s2 hsb (by omega) c2 (by omega) (by unfold maxLen at hF; omega)).mono ?_
        rintro e w' ⟨he, F', e1, e2, hd⟩
        rw [ht] at e2
        exact ⟨he, (post_row w b o g bin _ F' (l.length + s) F.length hgb (heap_lt hg) (by rw [hs]; rfl) (by rw [hv]; rfl) hlen' e1 c2 hF e2 (by simp)).dr hd⟩
      · refine (record121_grow b o g l.length s bin st F w hs hv hg hgb.symm hb hf0 hf1 h0 hlF b1 s2 hsb (by omega) (by omega) (by omega)).mono ?_
        rintro e w' ⟨he, G, e1, e2, e3, hd⟩
        rw [ht] at e3
        exact ⟨he, (post_grow w b o (some g) bin _ G (l.length + s) hb (by rw [hs]; rfl) (by rw [hv]; rfl) hlen' e1 e2 e3 (by simp)).dr hd⟩
    · rw [if_neg c1] at hlen
      rw [if_neg c1, if_neg c1]
      obtain ⟨k, hk⟩ : ∃ k : Nat, bin - st = (k : Int) := ⟨(bin - st).toNat, by omega⟩
      have ek : (bin - st).toNat = k := by omega
      by_cases c2 : bin ≤ st + l.length - 1
      · rw [if_pos c2] at hlen ⊢
        rw [List.length_modify] at hlen
        obtain ⟨x, hx⟩ : ∃ x, F[k]? = some x := ⟨_, List.getElem?_eq_getElem (by omega)⟩
        have hxl : x < 4611686018427387904 := by
          refine hlx x ?_
          rw [← ht]
          refine List.mem_of_getElem? (i := k) ?_
          rw [List.getElem?_take_of_lt (by omega)]; exact hx
        have hcx : w.cell? ⟨g, (bin - st).toNat, none⟩ = some (.int .u64 (x : Int)) := by rw [ek, row_cell hg, hx]; rfl
        refine (record121_in b o g l.length F.length bin st (x : Int) w hs hv h0 hlen s1 s2 (by omega) c2 hcx (row_frozen hg)).mono ?_
        rintro e w' ⟨he, kd, rfl⟩
        have ew : Value.int .u64 (IntKind.u64.wrap ((x : Int) + 1)) = U (x + 1) := by
          unfold U
          rw [IntWalk.u64_in _ (by omega)]
          rfl
        rw [ew, ek]
        exact ⟨he, (post_in w b o g k st l F hg hgb hs hv hlF hF ht (by omega) x hx).dr ⟨kd, rfl⟩⟩
      · rw [if_neg c2] at hlen ⊢
        rw [ek] at hlen ⊢
        simp only [List.length_cons, List.length_append, List.length_replicate, List.length_nil] at hlen
        have hlen' : (l ++ (List.replicate (k - l.length) 0 ++ [1])).length = k + 1 := by simp; omega
        by_cases c3 : k < F.length
        · refine (record121_after b o g l.length k bin st F w hs hv hg hgb.symm hf1 h0 s1 b2 hk (by omega) c3 (by omega) (by unfold maxLen at hF; omega)).mono ?_
          rintro e w' ⟨he, F', e1, e2, hd⟩
          rw [ht] at e2
          exact ⟨he, (post_row1 w b o g st _ F' (k + 1) F.length hgb (heap_lt hg) hs (by rw [hv]; rfl) hlen' e1 (by omega) hF e2 (by simp)).dr hd⟩
        · refine (record121_longer b o g l.length k bin st F w hs hv hg hgb.symm hb hf1 h0 hlF s1 b2 hk (by omega) (by omega) (by omega)).mono ?_
          rintro e w' ⟨he, G, e1, e2, e3, hd⟩
          rw [ht] at e3
          exact ⟨he, (post_longer w b o (some g) st _ G _ (k + 1) hb hs (by rw [hv]; rfl) hlen' e1 e2 e3 (by simp)).dr hd⟩
end Go.Proofs.YtlpddogcnpokfaaGreat
