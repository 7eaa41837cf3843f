/- Walks: a bucket behind the last one, with room and without. -/
import Derived.Test.YtlpddogcnpokfaaGreatRec2
import Derived.StillTailTactics
import Derived.Deep.RegionLaw
namespace Go.Proofs.YtlpddogcnpokfaaGreat
open Go.RowKit

theorem Dr.refl (w : World) : Dr w w := ⟨0, rfl⟩
theorem Dr.drewN {w a : World} (h : Dr w a) (n : Nat) : Dr w (a.drewN n) := by
  obtain ⟨k, rfl⟩ := h; exact ⟨k + n, by rw [World.drewN_drewN]⟩
theorem Dr.drew {w a : World} (h : Dr w a) : Dr w a.drew := h.drewN 1

/-- the loop behind the end: zeros from 'n' on, below 'k' -/
def ZaRel (F : List Nat) (n k : Nat) (G : List Nat) : Prop := G.length = F.length ∧ (∀ j, j < n → G[j]? = F[j]?) ∧ (∀ j, n ≤ j → j < k → G[j]? = some 0)
theorem ZaRel.start (F : List Nat) (n : Nat) : ZaRel F n n F := ⟨rfl, fun _ _ => rfl, fun j h1 h2 => by omega⟩
theorem ZaRel.step {F G : List Nat} {n k : Nat} (h : ZaRel F n k G) (hn : n ≤ k) (hk : k < F.length) : ZaRel F n (k + 1) (G.set k 0) := by
  obtain ⟨h1, h2, h3⟩ := h
  refine ⟨by simpa using h1, fun j hj => ?_, fun j hj hj2 => ?_⟩
  · rw [List.getElem?_set_ne (by omega)]; exact h2 j hj
  · by_cases e : j = k
    · subst e; rw [List.getElem?_set_self (by omega)]
    · rw [List.getElem?_set_ne (by omega)]; exact h3 j hj (by omega)
theorem ZaRel.fin {F G : List Nat} {n k : Nat} (h : ZaRel F n (k + 1) G) (hn : n ≤ k) (hk : k < F.length) :
    (G.set k 1).length = F.length ∧ (G.set k 1).take (k + 1) = F.take n ++ (List.replicate (k - n) 0 ++ [1]) := by
  obtain ⟨h1, h2, h3⟩ := h
  refine ⟨by simpa using h1, ?_⟩
  apply List.ext_getElem?
  intro j
  by_cases hj : j < k + 1
  · rw [List.getElem?_take_of_lt hj]
    by_cases hjn : j < n
    · rw [List.getElem?_append_left (by simp; omega), List.getElem?_set_ne (by omega), h2 j hjn, List.getElem?_take_of_lt hjn]
    · rw [List.getElem?_append_right (by simp; omega)]
      have hl : (F.take n).length = n := by simp; omega
      rw [hl]
      by_cases e : j = k
      · subst e
        rw [List.getElem?_set_self (by omega), List.getElem?_append_right (by simp)]
        simp
      · rw [List.getElem?_set_ne (by omega), h3 j (by omega) hj, List.getElem?_append_left (by simp; omega), List.getElem?_replicate, if_pos (by omega)]
  · rw [List.getElem?_eq_none (by simp; omega), List.getElem?_eq_none (by simp; omega)]

set_option maxRecDepth 100000 in
set_option maxHeartbeats 1000000 in
theorem record121_after (b o g n k : Nat) (bin st : Int) (F : List Nat) (w : World) (hs : w.cell? ⟨b, o, none⟩ = some (.int .i32 st))
    (hv : w.cell? ⟨b, o + 1, none⟩ = some (.slice (some ⟨g, 0, none⟩) n F.length)) (hg : w.heap[g]? = some (rowObj F)) (hbg : b ≠ g)
    (hf1 : w.frozen? ⟨b, o + 1, none⟩ = false)
    (h0 : 0 < n) (s1 : -1130000000 ≤ st) (s2 : bin ≤ 1130000000) (hk : bin - st = (k : Int)) (hnk : n ≤ k) (hroom : k < F.length) (hk2 : k < 1000) (_hF : F.length ≤ 9223372036854775807) :
    Calls Tryz.prog 121 #[.pointer (some ⟨b, o, none⟩), .int .i32 bin] w fun e w' => e = .returned (.tuple #[]) ∧ ∃ F', F'.length = F.length ∧ F'.take (k + 1) = F.take n ++ (List.replicate (k - n) 0 ++ [1]) ∧
      Dr (putRow (w.setCell ⟨b, o + 1, none⟩ (.slice (some ⟨g, 0, none⟩) (k + 1) F.length)) g F') w' := by
  have hz : ((n : Int) == 0) = false := by simp; omega
  have q1 : st ≤ bin := by omega
  have q2 : ¬ bin < st := by omega
  have q3 : ¬ (bin ≤ st + (n : Int) - 1) := by omega
  have q4 : st + (n : Int) - 1 < bin := by omega
  have q6 : (k : Int) < (F.length : Int) := by omega
  have q7 : decide (bin ≤ st + (n : Int) - 1) = false := by simpa using q4
  have q8 : decide (bin < st) = false := by simpa using q1
  go_enter Tryz.func121, Tryz.ntmps121
  go_wp2_with fail
  go_quiet (fail)
  go_wp2_with fail
  have hq : IntKind.i32.wrap (bin - st) = (k : Int) := by rw [hk]; exact IntWalk.i32_in _ (by omega)
  have hq2 : IntKind.i32.wrap (k : Int) = (k : Int) := IntWalk.i32_in _ (by omega)
  have hq3 : IntKind.i64.wrap (k : Int) = (k : Int) := IntWalk.i64_in _ (by omega)
  obtain ⟨w0, hW0⟩ : ∃ w0, w0 = w.drewN nq := ⟨_, rfl⟩
  have hs0 : w0.cell? ⟨b, o, none⟩ = some (.int .i32 st) := by rw [hW0]; exact hs
  have hv0 : w0.cell? ⟨b, o + 1, none⟩ = some (.slice (some ⟨g, 0, none⟩) n F.length) := by rw [hW0]; exact hv
  rw [← hW0]
  go_quiet (fail)
  go_wp2_with fail
  obtain ⟨w1, hW1⟩ : ∃ w1, w1 = w0.drewN nq := ⟨_, rfl⟩
  rw [← hW1]
  refine wp_region_still_tail 15 (by kernel_rfl) (by kernel_rfl) ?_
  change wpStill _ _ w1.drew (fun a' => wpList _ _ _ _ a' w1.drew) _ _
  obtain ⟨m0, hW'⟩ : Dr w w1.drew := by rw [hW1, hW0]; exact (((Dr.refl w).drewN _).drewN _).drew
  have hW := hW'.symm
  clear hW'
  have hv2 : w1.drew.cell? ⟨b, o + 1, none⟩ = some (.slice (some ⟨g, 0, none⟩) n F.length) := by rw [hW]; exact hv
  have hs2 : w1.drew.cell? ⟨b, o, none⟩ = some (.int .i32 st) := by rw [hW]; exact hs
  have hfv2 : w1.drew.frozen? ⟨b, o + 1, none⟩ = false := by rw [hW]; exact hf1
  have hg2 : w1.drew.heap[g]? = some (rowObj F) := by rw [hW]; exact hg
  generalize w1.drew = w2 at *
  have HW := Lib.hid hW
  have hq4 : IntKind.i32.wrap ((k : Int) + 1) = (k : Int) + 1 := IntWalk.i32_in _ (by omega)
  clear hW hW1 hW0 hs0 hv0 hs hv hg hf1
  have i1 : (0 : Int) ≤ (k : Int) + 1 := by omega
  have i2 : (k : Int) + 1 ≤ (F.length : Int) := by omega
  simp only [List.take_succ_cons, List.take_zero, List.drop_succ_cons, List.drop_zero]
  repeat still_step
  refine wpStill_nil ?_
  go_wp2_with fail
  have hsW : (w2.setCell ⟨b, o + 1, none⟩ (.slice (some ⟨g, 0, none⟩) (k + 1) F.length)).cell? ⟨b, o, none⟩ = some (.int .i32 st) := by go_simp
  have hvW : (w2.setCell ⟨b, o + 1, none⟩ (.slice (some ⟨g, 0, none⟩) (k + 1) F.length)).cell? ⟨b, o + 1, none⟩ = some (.slice (some ⟨g, 0, none⟩) (k + 1) F.length) := by go_simp
  have hgW : (w2.setCell ⟨b, o + 1, none⟩ (.slice (some ⟨g, 0, none⟩) (k + 1) F.length)).heap[g]? = some (rowObj F) := by
    rw [Below.heap_setCell _ _ _ _ (by simpa using hbg.symm)]; exact hg2
  generalize hW3 : w2.setCell ⟨b, o + 1, none⟩ (.slice (some ⟨g, 0, none⟩) (k + 1) F.length) = W0 at *
  have HW3 := Lib.hid hW3
  have HGW := Lib.hid hgW
  have hgs := Lib.hid (heap_lt hgW)
  have HBG := Lib.hid hbg
  have HK := Lib.hid hk
  have HQ := Lib.hid hq
  clear hW3 hgW hbg hs2 hv2 hfv2 hg2 hq4 i1 i2
  go_loopw [10] (fun i wr => ∃ (m : Nat) (G : List Nat), n ≤ m ∧ m ≤ k + 1 ∧ i = .int .i64 (m : Int) ∧ Dr (putRow W0 g G) wr ∧ ZaRel F n m G) (fun i _ => k + 1 - (intOf i).toNat)
  case atStart => exact ⟨n, F, by omega, by omega, v_int (by omega), ⟨0, by rw [putRow_same _ _ _ HGW.out]; rfl⟩, ZaRel.start F n⟩
  case round =>
    obtain ⟨m, G, hm1, hm2, rfl, ⟨kd, hkd⟩, hsh⟩ := hrel
    have hvr : wr.cell? ⟨b, o + 1, none⟩ = some (.slice (some ⟨g, 0, none⟩) (k + 1) F.length) := by
      rw [← hkd]; show (putRow W0 g G).cell? _ = _; rw [putRow_cell_other _ _ _ _ _ HBG.out]; exact hvW
    have hsr : wr.cell? ⟨b, o, none⟩ = some (.int .i32 st) := by
      rw [← hkd]; show (putRow W0 g G).cell? _ = _; rw [putRow_cell_other _ _ _ _ _ HBG.out]; exact hsW
    have HKD := Lib.hid hkd
    have HSH := Lib.hid hsh
    clear hkd hsh
    by_cases hlt : m < k + 1
    · obtain ⟨y, hy⟩ : ∃ y, G[m]? = some y := ⟨_, List.getElem?_eq_getElem (by have := HSH.out.1; omega)⟩
      have hc2 : wr.cell? ⟨g, m, none⟩ = some (U y) := by rw [← HKD.out]; exact (putRow_cell W0 g m G hgs.out).trans (by rw [hy]; rfl)
      have hc3 : wr.frozen? ⟨g, m, none⟩ = false := by rw [← HKD.out]; exact putRow_frozen W0 g m G hgs.out
      have hset := Lib.hid (show wr.setCell ⟨g, m, none⟩ (U 0) = (putRow W0 g (G.set m 0)).drewN kd by
        rw [← HKD.out]; exact putRow_setCell (W0.drewN kd) g m 0 G hgs.out)
      clear hy
      go_wp2_with (go_at_call 143; refine (storeU _ _ 0 _ hc2 hc3).mono ?_; rintro e w' ⟨rfl, rfl⟩)
      go_roundw
      case rel => exact ⟨m + 1, G.set m 0, by omega, by omega, by go_num, ⟨kd, hset.out.symm⟩, ZaRel.step HSH.out hm1 (by omega)⟩
      case measure => simp [intOf]; omega
    · obtain rfl : m = k + 1 := by omega
      obtain ⟨y, hy⟩ : ∃ y, G[k]? = some y := ⟨_, List.getElem?_eq_getElem (by have := HSH.out.1; omega)⟩
      have HFIN := Lib.hid (ZaRel.fin HSH.out hnk hroom)
      clear hlt hm1 hm2
      go_wp2_with fail
      refine wp_region_still_tail 11 (by kernel_rfl) (by kernel_rfl) ?_
      change wpStill _ _ wr.drew (fun a' => wpList _ _ _ _ a' wr.drew) _ _
      have hv4 : wr.drew.cell? ⟨b, o + 1, none⟩ = some (.slice (some ⟨g, 0, none⟩) (k + 1) F.length) := hvr
      have hs4 : wr.drew.cell? ⟨b, o, none⟩ = some (.int .i32 st) := hsr
      have hc2 : wr.drew.cell? ⟨g, k, none⟩ = some (U y) := by rw [← HKD.out]; exact (putRow_cell W0 g k G hgs.out).trans (by rw [hy]; rfl)
      have hc3 : wr.drew.frozen? ⟨g, k, none⟩ = false := by rw [← HKD.out]; exact putRow_frozen W0 g k G hgs.out
      have hset := Lib.hid (show wr.drew.setCell ⟨g, k, none⟩ (U 1) = (putRow W0 g (G.set k 1)).drewN (kd + 1) by
        rw [← HKD.out]; exact putRow_setCell (W0.drewN (kd + 1)) g k 1 G hgs.out)
      clear hy hvr hsr
      generalize wr.drew = w4 at *
      have i1 : (k : Int) < (k : Int) + 1 := by omega
      have i2 : (0 : Int) ≤ (k : Int) := by omega
      have hk' := HK.out
      simp only [List.take_succ_cons, List.take_zero, List.drop_succ_cons, List.drop_zero]
      repeat still_step
      refine wpStill_nil ?_
      go_wp2_with (go_at_call 143; refine (storeU _ _ 1 _ hc2 hc3).mono ?_; rintro e w' ⟨rfl, rfl⟩)
      (try simp only [Exit.inBlock, Exit.then])
      refine bodyPost_ret (results_none rfl _ _ _) rfl ?_
      exact ⟨rfl, G.set k 1, HFIN.out.1, HFIN.out.2, m0 + (kd + 1), by rw [hset.out, ← HW3.out, HW.out, ← World.drewN_drewN]; rfl⟩
end Go.Proofs.YtlpddogcnpokfaaGreat
namespace Go.Proofs.YtlpddogcnpokfaaGreat
open Go.RowKit

theorem alloc_new (w : World) (O : Obj) : (w.alloc O).heap[w.heap.size]? = some O := by
  show (w.heap.push O)[w.heap.size]? = some O
  rw [Array.getElem?_push, if_pos rfl]
theorem alloc_size (w : World) (O : Obj) : (w.alloc O).heap.size = w.heap.size + 1 := by show (w.heap.push O).size = _; simp
theorem setCell_size (w : World) (a : Addr) (v : Value) : (w.setCell a v).heap.size = w.heap.size := by unfold World.setCell; simp

theorem dr_of {A B : World} (m : Nat) (h1 : A.heap = B.heap) (h2 : A.tape = B.tape) (h3 : A.os = B.os) (h4 : A.output = B.output) (h5 : A.drawn + m = B.drawn) : A.drewN m = B := by
  cases A; cases B
  simp only at h1 h2 h3 h4 h5
  subst h1 h2 h3 h4
  simp only [World.drewN]
  congr 1

theorem longer_world (w : World) (b o j : Nat) (v : Value) (O O2 : Obj) (G : List Nat) :
    (((w.setCell ⟨b, o + 1, none⟩ v).alloc O).alloc (rowObj G)).drewN (j + 2) =
      putRow (((((w.drewN j).setCell ⟨b, o + 1, none⟩ v).alloc O).alloc O2).drew.drew) ((w.drewN j).heap.size + 1) G := by
  refine dr_of _ ?_ rfl rfl rfl ?_
  · apply Array.ext_getElem?
    intro i
    simp only [World.alloc, World.setCell, World.drew, World.drewN, putRow, Array.getElem?_push, Array.getElem?_setIfInBounds, Array.getElem?_modify, Array.size_modify, Array.size_push]
    by_cases h1 : i = w.heap.size + 1
    · subst h1
      simp
    · have h1' : ¬ w.heap.size + 1 = i := fun e => h1 e.symm
      simp [h1, h1']
  · simp only [World.alloc, World.setCell, World.drew, World.drewN, putRow]; omega

theorem run_made (w : World) (m : Nat) (hm : m ≤ 1000) :
    (Instr.makeSlice 165 (.int .i64 (m : Int)) (.int .i64 (m : Int))).run Tryz.prog w = .ok (.slice (some ⟨w.heap.size, 0, none⟩) m m) (w.alloc (rowObj (List.replicate m 0))) := by
  obtain ⟨i, hi, hz, hs, hb⟩ := info151
  have h := run_make (P := Tryz.prog) (w := w) 165 151 i _ Tryz.underlying165 hi hz .i64 .i64 (m : Int) (m : Int) (by omega) (by omega) (by rw [hb]; omega) (by omega)
  rw [h, hs]
  have e : madeCells (Value.agg #[.int .u64 0]).cells ((m : Int).toNat * 1) = ((List.replicate m 0).map U).toArray := by
    unfold madeCells
    apply Array.ext_getElem?
    intro i
    simp [Value.cells, U]
    by_cases h : i < m <;> simp [h, Nat.mod_one]
  rw [e]
  simp only [Int.toNat_natCast]
  rfl

theorem run_grow2 (w : World) (ty : TypeId) (g g2 n m : Nat) (F : List Nat) (hg : w.heap[g]? = some (rowObj F)) (hg2 : w.heap[g2]? = some (rowObj (List.replicate m 0))) (hn : n ≤ F.length) (hk : F.length < n + m) (hnk : n + m ≤ 1000) :
    ∃ c, n + m ≤ c ∧ c ≤ maxLen ∧ (Builtin.append_ #[165, 165] ty #[.slice (some ⟨g, 0, none⟩) n F.length, .slice (some ⟨g2, 0, none⟩) m m]).run Tryz.prog w =
      .ok (.slice (some ⟨w.heap.size, 0, none⟩) (n + m) c) (w.drew.alloc (rowObj (grownRow F n c))) := by
  obtain ⟨i, hi, hz, hs, hb⟩ := info151
  have cells : ∀ (g n : Nat) (F : List Nat), w.heap[g]? = some (rowObj F) → n ≤ F.length → ∀ j v, ((F.take n).map U)[j]? = some v → w.cell? ((⟨g, 0, none⟩ : Addr).add j) = some v := by
    intro g n F hg hn j v hj
    have hc := row_cell (i := j) hg
    have : w.cell? ((⟨g, 0, none⟩ : Addr).add j) = w.cell? ⟨g, j, none⟩ := by
      unfold Addr.add
      by_cases hj0 : j = 0
      · subst hj0; rfl
      · rw [if_neg hj0]; simp only [Nat.zero_add]
    rw [this, hc]
    rw [List.getElem?_map] at hj
    have hjn : j < n := by
      by_cases h : j < n
      · exact h
      · rw [List.getElem?_eq_none (by simp; omega)] at hj; cases hj
    rw [List.getElem?_take_of_lt hjn] at hj
    exact hj
  have c1 := cells g n F hg hn
  have c2 := cells g2 m (List.replicate m 0) hg2 (by simp)
  have hc := nextcap_le (n + m) F.length hnk (by omega)
  have hr := run_append_grow (P := Tryz.prog) (w := w) 165 ty 151 i _ Tryz.underlying165 hi hz ⟨g, 0, none⟩ n F.length ((F.take n).map U) (by rw [hs]; simp; omega) c1 ⟨g2, 0, none⟩ m m (((List.replicate m 0).take m).map U) (by rw [hs]; simp) c2 hk (by omega) (by rw [hb]; omega)
  refine ⟨grownCap w (n + m) F.length 151, grownCap_ge .., grownCap_le_maxLen _ _ _ _ (by unfold maxLen; omega), ?_⟩
  rw [hr, zeroCells_U]
  have e : (List.replicate m 0).take m = List.replicate m 0 := by simp
  rw [e, grown_eq w F n m _ (grownCap_ge w (n + m) F.length 151)]

theorem grownRow_set (F : List Nat) (n k c : Nat) (hn : n ≤ F.length) (hnk : n ≤ k) (hk : k + 1 ≤ c) :
    ((grownRow F n c).set k 1).length = c ∧ ((grownRow F n c).set k 1).take (k + 1) = F.take n ++ (List.replicate (k - n) 0 ++ [1]) := by
  have hl := grownRow_length F n c hn (by omega)
  refine ⟨by simpa using hl, ?_⟩
  have h : ZaRel (grownRow F n c) n (k + 1) (grownRow F n c) := by
    refine ⟨rfl, fun _ _ => rfl, fun j h1 h2 => ?_⟩
    unfold grownRow
    rw [List.getElem?_append_right (by simp; omega), List.getElem?_replicate, if_pos (by simp; omega)]
  have := (ZaRel.fin h hnk (by omega)).2
  rw [this, grownRow_take F n c hn]

set_option maxRecDepth 100000 in
set_option maxHeartbeats 1000000 in
theorem record121_longer (b o g n k : Nat) (bin st : Int) (F : List Nat) (w : World) (hs : w.cell? ⟨b, o, none⟩ = some (.int .i32 st))
    (hv : w.cell? ⟨b, o + 1, none⟩ = some (.slice (some ⟨g, 0, none⟩) n F.length)) (hg : w.heap[g]? = some (rowObj F)) (_hbg : b ≠ g) (hb : b < w.heap.size)
    (hf1 : w.frozen? ⟨b, o + 1, none⟩ = false)
    (h0 : 0 < n) (hnF : n ≤ F.length) (s1 : -1130000000 ≤ st) (s2 : bin ≤ 1130000000) (hk : bin - st = (k : Int)) (hnk : n ≤ k) (hroom : F.length ≤ k) (hk2 : k < 1000) :
    Calls Tryz.prog 121 #[.pointer (some ⟨b, o, none⟩), .int .i32 bin] w fun e w' => e = .returned (.tuple #[]) ∧ ∃ G : List Nat, k + 1 ≤ G.length ∧ G.length ≤ maxLen ∧ G.take (k + 1) = F.take n ++ (List.replicate (k - n) 0 ++ [1]) ∧
      Dr (((w.setCell ⟨b, o + 1, none⟩ (.slice (some ⟨w.heap.size + 1, 0, none⟩) (k + 1) G.length)).alloc (rowObj (List.replicate (k + 1 - n) 0))).alloc (rowObj G)) w' := by
  have hz : ((n : Int) == 0) = false := by simp; omega
  have q1 : st ≤ bin := by omega
  have q2 : ¬ bin < st := by omega
  have q3 : ¬ (bin ≤ st + (n : Int) - 1) := by omega
  have q4 : st + (n : Int) - 1 < bin := by omega
  have q6 : ¬ ((k : Int) < (F.length : Int)) := by omega
  have q7 : decide (bin ≤ st + (n : Int) - 1) = false := by simpa using q4
  have q8 : decide (bin < st) = false := by simpa using q1
  go_enter Tryz.func121, Tryz.ntmps121
  go_wp2_with fail
  go_quiet (fail)
  go_wp2_with fail
  have hq : IntKind.i32.wrap (bin - st) = (k : Int) := by rw [hk]; exact IntWalk.i32_in _ (by omega)
  have hq2 : IntKind.i32.wrap (k : Int) = (k : Int) := IntWalk.i32_in _ (by omega)
  have hq3 : IntKind.i64.wrap (k : Int) = (k : Int) := IntWalk.i64_in _ (by omega)
  obtain ⟨w0, hW0⟩ : ∃ w0, w0 = w.drewN nq := ⟨_, rfl⟩
  have hs0 : w0.cell? ⟨b, o, none⟩ = some (.int .i32 st) := by rw [hW0]; exact hs
  have hv0 : w0.cell? ⟨b, o + 1, none⟩ = some (.slice (some ⟨g, 0, none⟩) n F.length) := by rw [hW0]; exact hv
  rw [← hW0]
  go_quiet (fail)
  go_wp2_with fail
  obtain ⟨w1, hW1⟩ : ∃ w1, w1 = w0.drewN nq := ⟨_, rfl⟩
  rw [← hW1]
  refine wp_region_still_tail 14 (by kernel_rfl) (by kernel_rfl) ?_
  change wpStill _ _ w1.drew (fun a' => wpList _ _ _ _ a' w1.drew) _ _
  obtain ⟨m0, hW'⟩ : Dr w w1.drew := by rw [hW1, hW0]; exact (((Dr.refl w).drewN _).drewN _).drew
  have hW := hW'.symm
  clear hW'
  have hv2 : w1.drew.cell? ⟨b, o + 1, none⟩ = some (.slice (some ⟨g, 0, none⟩) n F.length) := by rw [hW]; exact hv
  have hs2 : w1.drew.cell? ⟨b, o, none⟩ = some (.int .i32 st) := by rw [hW]; exact hs
  have hfv2 : w1.drew.frozen? ⟨b, o + 1, none⟩ = false := by rw [hW]; exact hf1
  have hg2 : w1.drew.heap[g]? = some (rowObj F) := by rw [hW]; exact hg
  have hb2 : b < w1.drew.heap.size := by rw [hW]; exact hb
  generalize w1.drew = w2 at *
  have HW := Lib.hid hW
  have HG2 := Lib.hid hg2
  clear hW hW1 hW0 hs0 hv0 hs hv hg hf1 hg2
  obtain ⟨m, hm⟩ : ∃ m : Nat, m = k + 1 - n := ⟨_, rfl⟩
  have hq4 : IntKind.i64.wrap ((k : Int) - (n : Int)) = (k : Int) - (n : Int) := IntWalk.i64_in _ (by omega)
  have hq5 : IntKind.i64.wrap ((k : Int) - (n : Int) + 1) = (m : Int) := by rw [show (k : Int) - (n : Int) + 1 = (m : Int) from by omega]; exact IntWalk.i64_in _ (by omega)
  have hmk := fun w => run_made w m (by omega)
  have HM := Lib.hid hm
  clear hm
  simp only [List.take_succ_cons, List.take_zero, List.drop_succ_cons, List.drop_zero]
  repeat still_step
  refine wpStill_nil ?_
  obtain ⟨c, c1, c2, hrun⟩ := run_grow2 (w2.alloc (rowObj (List.replicate m 0))) 165 g w2.heap.size n m F (by rw [Below.heap_alloc _ _ _ (heap_lt HG2.out)]; exact HG2.out) (alloc_new _ _) hnF (by have := HM.out; omega) (by have := HM.out; omega)
  have HRUN := Lib.hid hrun
  clear hrun
  have hb3 : b < w2.heap.size + 1 := by omega
  have hb4 : b ≠ w2.heap.size := by omega
  have hb5 : b ≠ w2.heap.size + 1 := by omega
  go_wp2_with (at_builtin; refine Lib.wpList_append_run _ rfl (.tmp 254) (.tmp 255) 165 165 rfl (.slice (some ⟨g, 0, none⟩) n F.length) (.slice (some ⟨w2.heap.size, 0, none⟩) m m) rfl rfl _ _ HRUN.out ?_)
  have hvW : ((((w2.setCell ⟨b, o + 1, none⟩ (.slice (some ⟨w2.heap.size + 1, 0, none⟩) (n + m) c)).alloc (rowObj (List.replicate m 0))).alloc (rowObj (grownRow F n c))).drew).cell? ⟨b, o + 1, none⟩ = some (.slice (some ⟨w2.heap.size + 1, 0, none⟩) (n + m) c) := by go_simp
  have hsW : ((((w2.setCell ⟨b, o + 1, none⟩ (.slice (some ⟨w2.heap.size + 1, 0, none⟩) (n + m) c)).alloc (rowObj (List.replicate m 0))).alloc (rowObj (grownRow F n c))).drew).cell? ⟨b, o, none⟩ = some (.int .i32 st) := by go_simp
  have hgW : ((((w2.setCell ⟨b, o + 1, none⟩ (.slice (some ⟨w2.heap.size + 1, 0, none⟩) (n + m) c)).alloc (rowObj (List.replicate m 0))).alloc (rowObj (grownRow F n c))).drew).heap[w2.heap.size + 1]? = some (rowObj (grownRow F n c)) := by
    have h := alloc_new ((w2.setCell ⟨b, o + 1, none⟩ (.slice (some ⟨w2.heap.size + 1, 0, none⟩) (n + m) c)).alloc (rowObj (List.replicate m 0))) (rowObj (grownRow F n c))
    rw [alloc_size, setCell_size] at h
    exact h
  have HL := Lib.hid (grownRow_length F n c hnF (by omega))
  have HFIN := Lib.hid (grownRow_set F n k c hnF hnk (by have := HM.out; omega))
  have HNM := Lib.hid (show n + m = k + 1 by have := HM.out; omega)
  generalize hW3 : (((w2.setCell ⟨b, o + 1, none⟩ (.slice (some ⟨w2.heap.size + 1, 0, none⟩) (n + m) c)).alloc (rowObj (List.replicate m 0))).alloc (rowObj (grownRow F n c))).drew = W0 at *
  generalize hg' : w2.heap.size + 1 = g' at *
  have HW3 := Lib.hid hW3
  have HG' := Lib.hid hg'
  have HK := Lib.hid hk
  obtain ⟨y, hy⟩ : ∃ y, (grownRow F n c)[k]? = some y := ⟨_, List.getElem?_eq_getElem (by have := HL.out; have := HM.out; omega)⟩
  clear hW3 hg' hs2 hv2 hfv2 hb3 hb4 hb5 HG2 HRUN hmk
  refine wp_region_still_tail 11 (by kernel_rfl) (by kernel_rfl) ?_
  change wpStill _ _ W0.drew (fun a' => wpList _ _ _ _ a' W0.drew) _ _
  have hv4 : W0.drew.cell? ⟨b, o + 1, none⟩ = some (.slice (some ⟨g', 0, none⟩) (n + m) c) := hvW
  have hs4 : W0.drew.cell? ⟨b, o, none⟩ = some (.int .i32 st) := hsW
  have hc2 : W0.drew.cell? ⟨g', k, none⟩ = some (U y) := (row_cell (w := W0) hgW).trans (by rw [hy]; rfl)
  have hc3 : W0.drew.frozen? ⟨g', k, none⟩ = false := row_frozen (w := W0) hgW
  have hset := Lib.hid (show W0.drew.setCell ⟨g', k, none⟩ (U 1) = putRow W0.drew g' ((grownRow F n c).set k 1) from row_setCell (w := W0.drew) hgW)
  clear hy hvW hsW hgW
  have HW4 := Lib.hid (show W0.drew = W0.drew from rfl)
  have i1 : (k : Int) < (n : Int) + (m : Int) := by have := HNM.out; omega
  have i2 : (0 : Int) ≤ (k : Int) := by omega
  have hk' := HK.out
  generalize hw4 : W0.drew = w4 at *
  have HW5 := Lib.hid hw4
  clear hw4 HW4
  simp only [List.take_succ_cons, List.take_zero, List.drop_succ_cons, List.drop_zero]
  repeat still_step
  refine wpStill_nil ?_
  go_wp2_with (go_at_call 143; refine (storeU _ _ 1 _ hc2 hc3).mono ?_; rintro e w' ⟨rfl, rfl⟩)
  (try simp only [Exit.inBlock, Exit.then])
  refine bodyPost_end (results_none rfl _ _ _) rfl ?_
  refine ⟨rfl, (grownRow F n c).set k 1, by rw [HFIN.out.1, ← HNM.out]; exact c1, by rw [HFIN.out.1]; exact c2, HFIN.out.2, m0 + 2, ?_⟩
  rw [hset.out, ← HW5.out, ← HW3.out, ← HG'.out, HFIN.out.1, HW.out, ← HNM.out, Nat.add_sub_cancel_left]
  exact longer_world w b o m0 _ _ _ _
end Go.Proofs.YtlpddogcnpokfaaGreat
