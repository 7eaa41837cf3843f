/- Walks: a count in a bucket that is there, the first bucket, and a bucket before the first one where there is room; rows of counts in memory. -/
import Derived.Test.YtlpddogcnpokfaaGreatSc
import Derived.StillTailTactics
namespace Go.Proofs.YtlpddogcnpokfaaGreat
open Go.RowKit

theorem load80 (a : Addr) (n : Int) (w : World) (hc : w.cell? a = some (.int .u64 n)) :
    Calls Tryz.prog 80 #[.pointer (some a)] w fun e w' => e = .returned (.int .u64 n) ∧ w = w' := by
  go_enter Tryz.func80, Tryz.ntmps80
  go_wp2
  go_ret
  exact ⟨rfl, rfl⟩

theorem store143 (a : Addr) (v0 : Value) (n : Int) (w : World) (hc : w.cell? a = some v0) (hf : w.frozen? a = false) :
    Calls Tryz.prog 143 #[.pointer (some a), .int .u64 n] w fun e w' => e = .returned (.tuple #[]) ∧ w.setCell a (.int .u64 n) = w' := by
  go_enter Tryz.func143, Tryz.ntmps143
  go_wp2
  go_end0
  exact ⟨rfl, rfl⟩

theorem add116 (a : Addr) (x n : Int) (w : World) (hc : w.cell? a = some (.int .u64 x)) (hf : w.frozen? a = false) :
    Calls Tryz.prog 116 #[.pointer (some a), .int .u64 n] w fun e w' => e = .returned (.int .u64 (IntKind.u64.wrap (x + n))) ∧ w.setCell a (.int .u64 (IntKind.u64.wrap (x + n))) = w' := by
  go_enter Tryz.func116, Tryz.ntmps116
  go_wp2
  go_ret
  exact ⟨rfl, rfl⟩

set_option maxRecDepth 100000 in
set_option maxHeartbeats 1000000 in
theorem record121_in (b o g n c : Nat) (bin st x : Int) (w : World) (hs : w.cell? ⟨b, o, none⟩ = some (.int .i32 st)) (hv : w.cell? ⟨b, o + 1, none⟩ = some (.slice (some ⟨g, 0, none⟩) n c))
    (h0 : 0 < n) (hn : n ≤ 1000) (s1 : -1130000000 ≤ st) (s2 : st ≤ 1130000000) (b1 : st ≤ bin) (b2 : bin ≤ st + n - 1)
    (hx : w.cell? ⟨g, (bin - st).toNat, none⟩ = some (.int .u64 x)) (hf : w.frozen? ⟨g, (bin - st).toNat, none⟩ = false) :
    Calls Tryz.prog 121 #[.pointer (some ⟨b, o, none⟩), .int .i32 bin] w fun e w' => e = .returned (.tuple #[]) ∧ ∃ k, (w.setCell ⟨g, (bin - st).toNat, none⟩ (.int .u64 (IntKind.u64.wrap (x + 1)))).drewN k = w' := by
  have hz : ((n : Int) == 0) = false := by simp; omega
  go_enter Tryz.func121, Tryz.ntmps121
  go_wp2_with fail
  go_quiet (fail)
  go_wp2_with fail
  obtain ⟨w1, hW⟩ : ∃ w1, w1 = w.drewN nq := ⟨_, rfl⟩
  have hs1 : w1.cell? ⟨b, o, none⟩ = some (.int .i32 st) := by rw [hW]; exact hs
  have hv1 : w1.cell? ⟨b, o + 1, none⟩ = some (.slice (some ⟨g, 0, none⟩) n c) := by rw [hW]; exact hv
  have hx1 : w1.cell? ⟨g, (bin - st).toNat, none⟩ = some (.int .u64 x) := by rw [hW]; exact hx
  have hf1 : w1.frozen? ⟨g, (bin - st).toNat, none⟩ = false := by rw [hW]; exact hf
  rw [← hW]
  have HW := Lib.hid hW
  clear hW hs hv hx hf
  refine wp_region_still_tail 11 (by kernel_rfl) (by kernel_rfl) ?_
  change wpStill _ _ w1.drew _ _ _
  change wpStill _ _ _ (fun a' => wpList _ _ _ _ a' w1.drew) _ _
  generalize hW2 : w1.drew = w2
  have hs2 : w2.cell? ⟨b, o, none⟩ = some (.int .i32 st) := by rw [← hW2]; exact hs1
  have hv2 : w2.cell? ⟨b, o + 1, none⟩ = some (.slice (some ⟨g, 0, none⟩) n c) := by rw [← hW2]; exact hv1
  have hx2 : w2.cell? ⟨g, (bin - st).toNat, none⟩ = some (.int .u64 x) := by rw [← hW2]; exact hx1
  have hf2 : w2.frozen? ⟨g, (bin - st).toNat, none⟩ = false := by rw [← hW2]; exact hf1
  have HW2 := Lib.hid hW2
  clear hW2 hs1 hv1 hx1 hf1
  simp only [List.take_succ_cons, List.take_zero, List.drop_succ_cons, List.drop_zero]
  have hwr : IntKind.i32.wrap (bin - st) = bin - st := IntWalk.i32_in _ (by omega)
  have i1 : 0 ≤ bin - st := by omega
  have i2 : bin - st < (n : Int) := by omega
  repeat still_step
  refine wpStill_nil ?_
  go_wp2_with (go_at_call 116; refine (add116 _ _ _ _ hx2 hf2).mono ?_; rintro e w' ⟨rfl, rfl⟩)
  (try simp only [Exit.inBlock, Exit.then])
  refine bodyPost_ret (results_none rfl _ _ _) rfl ?_
  exact ⟨rfl, nq + 1, by rw [← HW2.out, HW.out]; rfl⟩
end Go.Proofs.YtlpddogcnpokfaaGreat
namespace Go.Proofs.YtlpddogcnpokfaaGreat
open Go.RowKit

/-- the world but for how many answers were drawn -/
def Dr (w w' : World) : Prop := ∃ k, w.drewN k = w'

set_option maxRecDepth 100000 in
set_option maxHeartbeats 1000000 in
theorem record121_first (b o : Nat) (bin st : Int) (w : World) (hb : b < w.heap.size) (hs : w.cell? ⟨b, o, none⟩ = some (.int .i32 st)) (hv : w.cell? ⟨b, o + 1, none⟩ = some (.slice none 0 0))
    (hf0 : w.frozen? ⟨b, o, none⟩ = false) (hf1 : w.frozen? ⟨b, o + 1, none⟩ = false) :
    Calls Tryz.prog 121 #[.pointer (some ⟨b, o, none⟩), .int .i32 bin] w fun e w' => e = .returned (.tuple #[]) ∧
      ((w.setCell ⟨b, o + 1, none⟩ (.slice (some ⟨w.heap.size, 0, none⟩) 1 1)).setCell ⟨b, o, none⟩ (.int .i32 bin)).alloc (.cells #[.int .u64 1] 151) = w' := by
  have hmk : ∀ w : World, (Instr.makeSlice 165 (.int .i64 1) (.int .i64 1)).run Tryz.prog w = .ok (.slice (some ⟨w.heap.size, 0, none⟩) 1 1) (w.alloc (.cells #[.int .u64 0] 151)) := fun _ => by kernel_rfl
  have hne : b ≠ w.heap.size := by omega
  go_enter Tryz.func121, Tryz.ntmps121
  go_wp2
  go_end0
  go_wp2
  (try simp only [Exit.inBlock, Exit.then])
  refine bodyPost_ret (results_none rfl _ _ _) rfl ?_
  exact ⟨rfl, rfl⟩
end Go.Proofs.YtlpddogcnpokfaaGreat
namespace Go.Proofs.YtlpddogcnpokfaaGreat
open Go.RowKit

/-- a count as a value -/
def U (n : Nat) : Value := .int .u64 (n : Int)
/-- a row of counts -/
def rowObj (F : List Nat) : Obj := .cells (F.map U).toArray 151 (0, 0)
/-- the world with another row in a block -/
def putRow (w : World) (g : Nat) (F : List Nat) : World := { w with heap := w.heap.setIfInBounds g (rowObj F) }

theorem putRow_cell (w : World) (g i : Nat) (F : List Nat) (hg : g < w.heap.size) : (putRow w g F).cell? ⟨g, i, none⟩ = F[i]?.map U := by
  unfold putRow World.cell? rowObj
  simp [hg]
theorem putRow_frozen (w : World) (g i : Nat) (F : List Nat) (hg : g < w.heap.size) : (putRow w g F).frozen? ⟨g, i, none⟩ = false := by
  unfold putRow World.frozen? rowObj
  simp [hg]
theorem putRow_heap (w : World) (g k : Nat) (F : List Nat) (hk : k ≠ g) : (putRow w g F).heap[k]? = w.heap[k]? := by
  unfold putRow
  simp [hk.symm]
theorem putRow_heap_same (w : World) (g : Nat) (F : List Nat) (hg : g < w.heap.size) : (putRow w g F).heap[g]? = some (rowObj F) := by
  unfold putRow
  simp [hg]
theorem putRow_cell_other (w : World) (g b o : Nat) (F : List Nat) (hk : b ≠ g) : (putRow w g F).cell? ⟨b, o, none⟩ = w.cell? ⟨b, o, none⟩ := by
  unfold World.cell?; rw [putRow_heap _ _ _ _ hk]
theorem putRow_frozen_other (w : World) (g b o : Nat) (F : List Nat) (hk : b ≠ g) : (putRow w g F).frozen? ⟨b, o, none⟩ = w.frozen? ⟨b, o, none⟩ := by
  unfold World.frozen?; rw [putRow_heap _ _ _ _ hk]
theorem putRow_size (w : World) (g : Nat) (F : List Nat) : (putRow w g F).heap.size = w.heap.size := by unfold putRow; simp
theorem putRow_same (w : World) (g : Nat) (F : List Nat) (h : w.heap[g]? = some (rowObj F)) : putRow w g F = w := by
  unfold putRow
  have : w.heap.setIfInBounds g (rowObj F) = w.heap := by
    apply Array.ext_getElem?
    intro i
    rw [Array.getElem?_setIfInBounds]
    split
    · rename_i e; subst e
      split
      · exact h.symm
      · rename_i hn; rw [Array.getElem?_eq_none (by omega)]
    · rfl
  rw [this]
theorem putRow_putRow (w : World) (g : Nat) (F G : List Nat) : putRow (putRow w g F) g G = putRow w g G := by
  unfold putRow; simp
theorem putRow_setCell (w : World) (g i x : Nat) (F : List Nat) (hg : g < w.heap.size) : (putRow w g F).setCell ⟨g, i, none⟩ (U x) = putRow w g (F.set i x) := by
  unfold putRow World.setCell rowObj
  congr 1
  apply Array.ext_getElem?
  intro k
  simp only [Array.getElem?_modify, Array.getElem?_setIfInBounds]
  by_cases hk : g = k
  · subst hk
    simp [hg, List.map_set]
  · simp [hk]
theorem putRow_drew (w : World) (g : Nat) (F : List Nat) : (putRow w g F).drew = putRow w.drew g F := rfl
theorem putRow_drewN (w : World) (g k : Nat) (F : List Nat) : (putRow w g F).drewN k = putRow (w.drewN k) g F := rfl

theorem putRow_setCell_other (w : World) (g b o : Nat) (v : Value) (F : List Nat) (hk : b ≠ g) : (putRow w g F).setCell ⟨b, o, none⟩ v = putRow (w.setCell ⟨b, o, none⟩ v) g F := by
  unfold putRow World.setCell
  congr 1
  apply Array.ext_getElem?
  intro k
  simp only [Array.getElem?_modify, Array.getElem?_setIfInBounds, Array.size_modify]
  by_cases h1 : b = k
  · subst h1; simp [hk.symm]
  · by_cases h2 : g = k
    · subst h2; simp [h1]
    · simp [h1, h2]

theorem heap_lt {w : World} {g : Nat} {o : Obj} (h : w.heap[g]? = some o) : g < w.heap.size := by
  rcases Nat.lt_or_ge g w.heap.size with h' | h'
  · exact h'
  · rw [Array.getElem?_eq_none h'] at h; cases h
theorem row_cell {w : World} {g i : Nat} {F : List Nat} (h : w.heap[g]? = some (rowObj F)) : w.cell? ⟨g, i, none⟩ = F[i]?.map U := by
  have := putRow_cell w g i F (heap_lt h)
  rwa [putRow_same w g F h] at this
theorem row_frozen {w : World} {g i : Nat} {F : List Nat} (h : w.heap[g]? = some (rowObj F)) : w.frozen? ⟨g, i, none⟩ = false := by
  have := putRow_frozen w g i F (heap_lt h)
  rwa [putRow_same w g F h] at this
theorem row_setCell {w : World} {g i x : Nat} {F : List Nat} (h : w.heap[g]? = some (rowObj F)) : w.setCell ⟨g, i, none⟩ (U x) = putRow w g (F.set i x) := by
  have := putRow_setCell w g i x F (heap_lt h)
  rwa [putRow_same w g F h] at this
end Go.Proofs.YtlpddogcnpokfaaGreat
namespace Go.Proofs.YtlpddogcnpokfaaGreat
open Go.RowKit

/-- the first loop: what is left of the old row, and what has been moved up by 's' -/
def ShRel (F : List Nat) (n s k : Nat) (G : List Nat) : Prop := G.length = F.length ∧ (∀ j, j < k → G[j]? = F[j]?) ∧ (∀ j, k ≤ j → j < n → G[j + s]? = F[j]?)
theorem ShRel.start (F : List Nat) (n s : Nat) : ShRel F n s n F := ⟨rfl, fun _ _ => rfl, fun j h1 h2 => by omega⟩
theorem ShRel.step {F G : List Nat} {n s m x : Nat} (h : ShRel F n s (m + 1) G) (hs : 0 < s) (hx : F[m]? = some x) (hn : n + s ≤ F.length) (hm : m < n) : ShRel F n s m (G.set (m + s) x) := by
  obtain ⟨h1, h2, h3⟩ := h
  refine ⟨by simpa using h1, fun j hj => ?_, fun j hj hj2 => ?_⟩
  · rw [List.getElem?_set_ne (by omega)]; exact h2 j (by omega)
  · by_cases e : j = m
    · subst e; rw [List.getElem?_set_self (by omega), hx]
    · rw [List.getElem?_set_ne (by omega)]; exact h3 j (by omega) hj2
/-- the second loop: zeros below 'k' -/
def ZeRel (F : List Nat) (n s k : Nat) (G : List Nat) : Prop := G.length = F.length ∧ (∀ j, 1 ≤ j → j < k → G[j]? = some 0) ∧ (∀ j, j < n → G[j + s]? = F[j]?)
theorem ZeRel.start {F G : List Nat} {n s : Nat} (h : ShRel F n s 0 G) : ZeRel F n s 1 G := ⟨h.1, fun j h1 h2 => by omega, fun j hj => h.2.2 j (by omega) hj⟩
theorem ZeRel.step {F G : List Nat} {n s k : Nat} (h : ZeRel F n s k G) (hk : k < s) (hn : n + s ≤ F.length) : ZeRel F n s (k + 1) (G.set k 0) := by
  obtain ⟨h1, h2, h3⟩ := h
  refine ⟨by simpa using h1, fun j hj hj2 => ?_, fun j hj => ?_⟩
  · by_cases e : j = k
    · subst e; rw [List.getElem?_set_self (by omega)]
    · rw [List.getElem?_set_ne (by omega)]; exact h2 j hj (by omega)
  · rw [List.getElem?_set_ne (by omega)]; exact h3 j hj
theorem ZeRel.fin {F G : List Nat} {n s : Nat} (h : ZeRel F n s s G) (hs : 0 < s) (hn : n + s ≤ F.length) : (G.set 0 1).length = F.length ∧ (G.set 0 1).take (n + s) = 1 :: (List.replicate (s - 1) 0 ++ F.take n) := by
  obtain ⟨h1, h2, h3⟩ := h
  refine ⟨by simpa using h1, ?_⟩
  apply List.ext_getElem?
  intro j
  by_cases hj : j < n + s
  · rw [List.getElem?_take_of_lt hj]
    cases j with
    | zero => rw [List.getElem?_set_self (by omega)]; rfl
    | succ j =>
      rw [List.getElem?_set_ne (by omega), List.getElem?_cons_succ]
      by_cases hj2 : j + 1 < s
      · rw [h2 _ (by omega) hj2, List.getElem?_append_left (by simp; omega), List.getElem?_replicate, if_pos (by omega)]
      · rw [List.getElem?_append_right (by simp; omega)]
        simp only [List.length_replicate]
        rw [List.getElem?_take_of_lt (by omega), ← h3 (j - (s - 1)) (by omega)]
        congr 1; omega
  · rw [List.getElem?_eq_none (by simp; omega), List.getElem?_eq_none (by simp; omega)]

theorem load80' (a : Addr) (n : Int) (w : World) (hc : w.cell? a = some (.int .u64 n)) :
    Calls Tryz.prog 80 #[.pointer (some a)] w fun e w' => e = .returned (.int .u64 n) ∧ w' = w :=
  (load80 a n w hc).mono fun _ _ ⟨h1, h2⟩ => ⟨h1, h2.symm⟩
theorem storeU (a : Addr) (v0 : Value) (n : Nat) (w : World) (hc : w.cell? a = some v0) (hf : w.frozen? a = false) :
    Calls Tryz.prog 143 #[.pointer (some a), U n] w fun e w' => e = .returned (.tuple #[]) ∧ w.setCell a (U n) = w' := store143 a v0 n w hc hf

set_option maxRecDepth 100000 in
set_option maxHeartbeats 1000000 in
theorem record121_before (b o g n s : Nat) (bin st : Int) (F : List Nat) (w : World) (hs : w.cell? ⟨b, o, none⟩ = some (.int .i32 st))
    (hv : w.cell? ⟨b, o + 1, none⟩ = some (.slice (some ⟨g, 0, none⟩) n F.length)) (hg : w.heap[g]? = some (rowObj F)) (hbg : b ≠ g)
    (hf0 : w.frozen? ⟨b, o, none⟩ = false) (hf1 : w.frozen? ⟨b, o + 1, none⟩ = false)
    (h0 : 0 < n) (s1 : -1130000000 ≤ bin) (s2 : st ≤ 1130000000) (hsb : st - bin = (s : Int)) (hs0 : 0 < s) (hroom : n + s ≤ F.length) (hns : n + s ≤ 1000) (hF : F.length ≤ 9223372036854775807) :
    Calls Tryz.prog 121 #[.pointer (some ⟨b, o, none⟩), .int .i32 bin] w fun e w' => e = .returned (.tuple #[]) ∧ ∃ F', F'.length = F.length ∧ F'.take (n + s) = 1 :: (List.replicate (s - 1) 0 ++ F.take n) ∧
      Dr (putRow ((w.setCell ⟨b, o + 1, none⟩ (.slice (some ⟨g, 0, none⟩) (n + s) F.length)).setCell ⟨b, o, none⟩ (.int .i32 bin)) g F') w' := by
  have hz : ((n : Int) == 0) = false := by simp; omega
  have q1 : ¬ st ≤ bin := by omega
  have q2 : bin < st := by omega
  have q3 : st + (n : Int) - 1 - bin + 1 = ((n + s : Nat) : Int) := by omega
  have q4 : ¬ ((F.length : Int) < ((n + s : Nat) : Int)) := by omega
  have q5 : decide (st ≤ bin) = false := by simpa using q2
  go_enter Tryz.func121, Tryz.ntmps121
  go_wp2_with fail
  go_quiet (fail)
  go_wp2_with fail
  have hsW : ((w.drewN nq).setCell ⟨b, o + 1, none⟩ (.slice (some ⟨g, 0, none⟩) (n + s) F.length)).cell? ⟨b, o, none⟩ = some (.int .i32 st) := by go_simp
  have hvW : ((w.drewN nq).setCell ⟨b, o + 1, none⟩ (.slice (some ⟨g, 0, none⟩) (n + s) F.length)).cell? ⟨b, o + 1, none⟩ = some (.slice (some ⟨g, 0, none⟩) (n + s) F.length) := by go_simp
  have hfW : ((w.drewN nq).setCell ⟨b, o + 1, none⟩ (.slice (some ⟨g, 0, none⟩) (n + s) F.length)).frozen? ⟨b, o, none⟩ = false := by go_simp
  have hgW : ((w.drewN nq).setCell ⟨b, o + 1, none⟩ (.slice (some ⟨g, 0, none⟩) (n + s) F.length)).heap[g]? = some (rowObj F) := by
    rw [Below.heap_setCell _ _ _ _ (by simpa using hbg.symm)]; exact hg
  generalize hW : (w.drewN nq).setCell ⟨b, o + 1, none⟩ (.slice (some ⟨g, 0, none⟩) (n + s) F.length) = W0 at *
  have HW := Lib.hid hW
  have HGW := Lib.hid hgW
  have hgs := Lib.hid (heap_lt hgW)
  have HBG := Lib.hid hbg
  have HV := Lib.hid hv
  have HG := Lib.hid hg
  clear hW hgW hs hv hg hbg hf0 hf1 hsb q3
  go_loopw [8] (fun i wr => ∃ (k : Nat) (G : List Nat), k ≤ n ∧ i = .int .i64 ((k : Int) - 1) ∧ Dr (putRow W0 g G) wr ∧ ShRel F n s k G) (fun i _ => (intOf i + 1).toNat)
  case atStart => exact ⟨n, F, by omega, rfl, ⟨0, by rw [putRow_same _ _ _ HGW.out]; rfl⟩, ShRel.start F n s⟩
  case round =>
    obtain ⟨k, G, hk, rfl, ⟨kd, hkd⟩, hsh⟩ := hrel
    have hvr : wr.cell? ⟨b, o + 1, none⟩ = some (.slice (some ⟨g, 0, none⟩) (n + s) F.length) := by
      rw [← hkd]; show (putRow W0 g G).cell? _ = _; rw [putRow_cell_other _ _ _ _ _ HBG.out]; exact hvW
    have hsr : wr.cell? ⟨b, o, none⟩ = some (.int .i32 st) := by
      rw [← hkd]; show (putRow W0 g G).cell? _ = _; rw [putRow_cell_other _ _ _ _ _ HBG.out]; exact hsW
    have hfr : wr.frozen? ⟨b, o, none⟩ = false := by
      rw [← hkd]; show (putRow W0 g G).frozen? _ = _; rw [putRow_frozen_other _ _ _ _ _ HBG.out]; exact hfW
    have hcr := Lib.hid (show ∀ i, wr.cell? ⟨g, i, none⟩ = G[i]?.map U ∧ wr.frozen? ⟨g, i, none⟩ = false by
      intro i; rw [← hkd]; exact ⟨putRow_cell W0 g i G hgs.out, putRow_frozen W0 g i G hgs.out⟩)
    have HKD := Lib.hid hkd
    have HSH := Lib.hid hsh
    clear hkd hsh
    cases k with
    | zero =>
      rw [show ((0 : Nat) : Int) - 1 = -1 from rfl]
      go_wp2_with fail
      have hzr := Lib.hid (ZeRel.start HSH.out)
      obtain ⟨wo, hwo⟩ : ∃ wo : World, wo = wr := ⟨_, rfl⟩
      have HWO := Lib.hid hwo
      clear hwo
      go_loopw [9] (fun i wr => ∃ (k : Nat) (G : List Nat), 1 ≤ k ∧ k ≤ s ∧ i = .int .i64 (k : Int) ∧ Dr (putRow W0 g G) wr ∧ ZeRel F n s k G) (fun i _ => s - (intOf i).toNat)
      case atStart => exact ⟨1, G, by omega, by omega, rfl, ⟨kd, HKD.out⟩, hzr.out⟩
      case round =>
        clear hvr hsr hfr hcr HKD HSH hzr HWO
        clear wo
        clear G kd
        obtain ⟨k, G, hk1, hk2, rfl, ⟨kd, hkd⟩, hsh⟩ := hrel
        have hvr : wr.cell? ⟨b, o + 1, none⟩ = some (.slice (some ⟨g, 0, none⟩) (n + s) F.length) := by
          rw [← hkd]; show (putRow W0 g G).cell? _ = _; rw [putRow_cell_other _ _ _ _ _ HBG.out]; exact hvW
        have hsr : wr.cell? ⟨b, o, none⟩ = some (.int .i32 st) := by
          rw [← hkd]; show (putRow W0 g G).cell? _ = _; rw [putRow_cell_other _ _ _ _ _ HBG.out]; exact hsW
        have hfr : wr.frozen? ⟨b, o, none⟩ = false := by
          rw [← hkd]; show (putRow W0 g G).frozen? _ = _; rw [putRow_frozen_other _ _ _ _ _ HBG.out]; exact hfW
        have HKD := Lib.hid hkd
        have HSH := Lib.hid hsh
        clear hkd hsh
        by_cases hlt : k < s
        · obtain ⟨y, hy⟩ : ∃ y, G[k]? = some y := ⟨_, List.getElem?_eq_getElem (by have := HSH.out.1; omega)⟩
          have hc2 : wr.cell? ⟨g, k, none⟩ = some (U y) := by rw [← HKD.out]; exact (putRow_cell W0 g k G hgs.out).trans (by rw [hy]; rfl)
          have hc3 : wr.frozen? ⟨g, k, none⟩ = false := by rw [← HKD.out]; exact putRow_frozen W0 g k G hgs.out
          have hset := Lib.hid (show wr.setCell ⟨g, k, none⟩ (U 0) = (putRow W0 g (G.set k 0)).drewN kd by
            rw [← HKD.out]; exact putRow_setCell (W0.drewN kd) g k 0 G hgs.out)
          clear hy
          go_wp2_with (go_at_call 143; refine (storeU _ _ 0 _ hc2 hc3).mono ?_; rintro e w' ⟨rfl, rfl⟩)
          go_roundw
          case rel => exact ⟨k + 1, G.set k 0, by omega, by omega, by go_num, ⟨kd, hset.out.symm⟩, ZeRel.step HSH.out hlt (by omega)⟩
          case measure => simp [intOf]; omega
        · obtain rfl : k = s := by omega
          obtain ⟨y, hy⟩ : ∃ y, G[0]? = some y := ⟨_, List.getElem?_eq_getElem (by have := HSH.out.1; omega)⟩
          have hc2 : (wr.setCell ⟨b, o, none⟩ (.int .i32 bin)).cell? ⟨g, 0, none⟩ = some (U y) := by
            rw [World.cell?_of_block (Below.heap_setCell wr ⟨b, o, none⟩ _ g (Ne.symm HBG.out)), ← HKD.out]; exact (putRow_cell W0 g 0 G hgs.out).trans (by rw [hy]; rfl)
          have hc3 : (wr.setCell ⟨b, o, none⟩ (.int .i32 bin)).frozen? ⟨g, 0, none⟩ = false := by
            rw [World.frozen?_of_block (Below.heap_setCell wr ⟨b, o, none⟩ _ g (Ne.symm HBG.out)), ← HKD.out]; exact putRow_frozen W0 g 0 G hgs.out
          have hset := Lib.hid (show (wr.setCell ⟨b, o, none⟩ (.int .i32 bin)).setCell ⟨g, 0, none⟩ (U 1) = (putRow (W0.setCell ⟨b, o, none⟩ (.int .i32 bin)) g (G.set 0 1)).drewN kd by
            rw [← HKD.out]
            show ((putRow (W0.drewN kd) g G).setCell _ _).setCell _ _ = _
            rw [putRow_setCell_other _ _ _ _ _ _ HBG.out]
            exact putRow_setCell ((W0.drewN kd).setCell ⟨b, o, none⟩ (.int .i32 bin)) g 0 1 G (by simpa [World.setCell] using hgs.out))
          have hfin := ZeRel.fin HSH.out hs0 hroom
          have HF := Lib.hid hfin
          clear hfin hy hlt
          go_wp2_with (go_at_call 143; refine (storeU _ _ 1 _ hc2 hc3).mono ?_; rintro e w' ⟨rfl, rfl⟩)
          (try simp only [Exit.inBlock, Exit.then])
          refine bodyPost_ret (results_none rfl _ _ _) rfl ?_
          exact ⟨rfl, G.set 0 1, HF.out.1, HF.out.2, nq + kd, by rw [hset.out, ← HW.out]; simp only [← World.drewN_drewN]; rfl⟩
    | succ m =>
      rw [show ((m + 1 : Nat) : Int) - 1 = (m : Int) from by omega]
      obtain ⟨x, hx⟩ : ∃ x, F[m]? = some x := ⟨_, List.getElem?_eq_getElem (by omega)⟩
      obtain ⟨y, hy⟩ : ∃ y, G[m + s]? = some y := ⟨_, List.getElem?_eq_getElem (by have := HSH.out.1; omega)⟩
      have HX := Lib.hid hx
      have hc1 : wr.cell? ⟨g, m, none⟩ = some (U x) := by rw [(hcr.out m).1, HSH.out.2.1 m (by omega), hx]; rfl
      have hc2 : wr.cell? ⟨g, m + s, none⟩ = some (U y) := by rw [(hcr.out (m + s)).1, hy]; rfl
      have hc3 : wr.frozen? ⟨g, m + s, none⟩ = false := (hcr.out (m + s)).2
      have hset := Lib.hid (show wr.setCell ⟨g, m + s, none⟩ (U x) = (putRow W0 g (G.set (m + s) x)).drewN kd by
        rw [← HKD.out]; exact putRow_setCell (W0.drewN kd) g (m + s) x G hgs.out)
      clear hx hy
      go_wp2_with fail
      refine wp_region_still_tail 16 (by kernel_rfl) (by kernel_rfl) ?_
      change wpStill _ _ wr.drew (fun a' => wpList _ _ _ _ a' wr.drew) _ _
      generalize hW2 : wr.drew = w2
      have hv2 : w2.cell? ⟨b, o + 1, none⟩ = some (.slice (some ⟨g, 0, none⟩) (n + s) F.length) := by rw [← hW2]; exact hvr
      have d1 : w2.cell? ⟨g, m, none⟩ = some (U x) := by rw [← hW2]; exact hc1
      have d2 : w2.cell? ⟨g, m + s, none⟩ = some (U y) := by rw [← hW2]; exact hc2
      have d3 : w2.frozen? ⟨g, m + s, none⟩ = false := by rw [← hW2]; exact hc3
      have HW2 := Lib.hid hW2
      clear hW2 hc1 hc2 hc3
      simp only [List.take_succ_cons, List.take_zero, List.drop_succ_cons, List.drop_zero]
      have w1 : IntKind.i64.wrap ((m : Int) + (s : Int)) = (m : Int) + (s : Int) := IntWalk.i64_in _ (by omega)
      have w0 : IntKind.i64.wrap (s : Int) = (s : Int) := IntWalk.i64_in _ (by omega)
      have w1' : ((m : Int) + (s : Int)).toNat = m + s := by omega
      have w2' : (m : Int) + (s : Int) < (n : Int) + (s : Int) := by omega
      have w3 : (0 : Int) ≤ (m : Int) + (s : Int) := by omega
      have w4 : (m : Int) < (n : Int) + (s : Int) := by omega
      repeat still_step
      still_call (load80' _ _ _ d1)
      refine wpStill_nil ?_
      go_wp2_with (go_at_call 143; refine (storeU _ _ _ _ d2 d3).mono ?_; rintro e w' ⟨rfl, rfl⟩)
      go_roundw
      case rel => exact ⟨m, G.set (m + s) x, by omega, rfl, ⟨kd + 1, by rw [← HW2.out, show wr.drew.setCell ⟨g, m + s, none⟩ (U x) = (wr.setCell ⟨g, m + s, none⟩ (U x)).drew from rfl, hset.out]; rfl⟩, ShRel.step HSH.out hs0 HX.out hroom (by omega)⟩
      case measure => simp [intOf]
end Go.Proofs.YtlpddogcnpokfaaGreat
