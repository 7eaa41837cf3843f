/- Walk: a bucket before the first one where the row must grow; rows of counts that grow. -/
import Derived.Test.YtlpddogcnpokfaaGreatRec1
import Derived.Lib.AppendZeros
import Derived.Lib.AppendZerosOnto
import Derived.StillTailTactics
import Derived.Deep.RegionLaw
namespace Go.Proofs.YtlpddogcnpokfaaGreat
open Go.RowKit

theorem growBy_le (newLen : Nat) : ∀ r c, newLen ≤ 1000 → c ≤ 1000 → r ≤ 4 → Builtin.growBy newLen r c ≤ 2000 := by
  intro r
  induction r with
  | zero => intro c h1 h2 h3; unfold Builtin.growBy; omega
  | succ r ih =>
    intro c h1 h2 h3
    unfold Builtin.growBy
    split
    · omega
    · rename_i hc
      by_cases h : c + (c + 768) / 4 ≤ 1000
      · exact ih _ h1 h (by omega)
      · have : Builtin.growBy newLen r (c + (c + 768) / 4) = c + (c + 768) / 4 := by
          cases r with
          | zero => rfl
          | succ r => unfold Builtin.growBy; rw [if_pos (by omega)]
        rw [this]; omega
theorem nextcap_le (need old : Nat) (h : need ≤ 1000) (h2 : old ≤ 1000) : Builtin.nextslicecap need old ≤ 2000 := by
  unfold Builtin.nextslicecap
  split
  · omega
  · split
    · omega
    · exact growBy_le need 4 old h h2 (by omega)

theorem info151 : ∃ i, Tryz.prog.info? 151 = some i ∧ i.zero = some (.agg #[.int .u64 0]) ∧ i.size = 1 ∧ i.bytes = 8 := by
  have h : (Tryz.prog.info? 151).map (fun i => (i.zero, i.size, i.bytes)) = some (some (.agg #[.int .u64 0]), 1, 8) := by kernel_rfl
  cases hi : Tryz.prog.info? 151 with
  | none => rw [hi] at h; cases h
  | some i => rw [hi] at h; simp only [Option.map_some, Option.some.injEq, Prod.mk.injEq] at h; exact ⟨i, rfl, h.1, h.2.1, h.2.2⟩

theorem zeroCells_U (k : Nat) : Builtin.zeroCells (Value.agg #[.int .u64 0]).cells k = ((List.replicate k 0).map U).toArray := by
  unfold Builtin.zeroCells
  apply Array.ext_getElem?
  intro i
  simp [Value.cells, U]
  by_cases h : i < k
  · simp [h, Nat.mod_one]
  · simp [h]

/-- a longer row, of zeros behind what there was -/
def grownRow (F : List Nat) (n c : Nat) : List Nat := F.take n ++ List.replicate (c - n) 0
theorem grownRow_length (F : List Nat) (n c : Nat) (h : n ≤ F.length) (hc : n ≤ c) : (grownRow F n c).length = c := by
  unfold grownRow; simp; omega
theorem grownRow_take (F : List Nat) (n c : Nat) (h : n ≤ F.length) : (grownRow F n c).take n = F.take n := by
  unfold grownRow; rw [List.take_append_of_le_length (by simp; omega), List.take_take, Nat.min_self]

theorem grown_eq (w : World) (F : List Nat) (n k c : Nat) (hge : n + k ≤ c) :
    w.drew.alloc (.cells (((F.take n).map U).toArray ++ ((List.replicate k 0).map U).toArray ++ ((List.replicate (c - (n + k)) 0).map U).toArray) 151) = w.drew.alloc (rowObj (grownRow F n c)) := by
  congr 1
  unfold rowObj grownRow
  congr 1
  rw [List.map_append]
  simp only [List.append_toArray, List.append_assoc]
  rw [← List.map_append, List.replicate_append_replicate, show k + (c - (n + k)) = c - n from by omega]

theorem run_grow (w : World) (ty : TypeId) (g n k : Nat) (F : List Nat) (hg : w.heap[g]? = some (rowObj F)) (hn : n ≤ F.length) (h0 : 0 < k) (hk : F.length < n + k) (hnk : n + k ≤ 1000) :
    ∃ c, n + k ≤ c ∧ c ≤ maxLen ∧ (Builtin.append_ #[165, 3] ty #[.slice (some ⟨g, 0, none⟩) n F.length, .int .i64 (k : Int)]).run Tryz.prog w =
      .ok (.slice (some ⟨w.heap.size, 0, none⟩) (n + k) c) (w.drew.alloc (rowObj (grownRow F n c))) := by
  obtain ⟨i, hi, hz, hs, hb⟩ := info151
  have hold : (Builtin.firstCells i.size n (.slice (some ⟨g, 0, none⟩) n F.length)).run Tryz.prog w.drew = .ok ((F.take n).map U).toArray w.drew := by
    rw [hs]
    refine run_firstCells_some (P := Tryz.prog) w.drew 1 n ⟨g, 0, none⟩ n F.length ((F.take n).map U) (by simp; omega) ?_
    intro j v hj
    have hc := row_cell (i := j) hg
    have : w.drew.cell? ((⟨g, 0, none⟩ : Addr).add j) = w.cell? ⟨g, j, none⟩ := by
      unfold Addr.add
      by_cases hj0 : j = 0
      · subst hj0; rfl
      · rw [if_neg hj0]; simp only [Nat.zero_add]; rfl
    rw [this, hc]
    rw [List.getElem?_map] at hj
    have hjn : j < n := by
      by_cases h : j < n
      · exact h
      · rw [List.getElem?_eq_none (by simp; omega)] at hj; cases hj
    rw [List.getElem?_take_of_lt hjn] at hj
    exact hj
  have hc := nextcap_le (n + k) F.length hnk (by omega)
  have hr := Lib.run_append_grow_zeros (P := Tryz.prog) w 165 3 ty 151 i _ .i64 .i64 Tryz.underlying165 Tryz.underlying3 hi hz (some ⟨g, 0, none⟩) n F.length _ hold k h0 (by omega) hk (by omega) (by rw [hb]; omega) (by rw [hb]; omega)
  refine ⟨grownCap w (n + k) F.length 151, grownCap_ge .., grownCap_le_maxLen _ _ _ _ (by unfold maxLen; omega), ?_⟩
  rw [hr, zeroCells_U, zeroCells_U, grown_eq w F n k _ (grownCap_ge w (n + k) F.length 151)]
end Go.Proofs.YtlpddogcnpokfaaGreat
namespace Go.Proofs.YtlpddogcnpokfaaGreat
open Go.RowKit

theorem setCell_twice (w : World) (a : Addr) (v : Value) : (w.setCell a v).setCell a v = w.setCell a v := by
  unfold World.setCell
  congr 1
  apply Array.ext_getElem?
  intro k
  simp only [Array.getElem?_modify]
  by_cases h : a.block = k
  · simp only [h, if_true, Option.map_map]
    congr 1
    funext ob
    cases ob <;> first | rfl | (simp only [Function.comp]; split <;> simp)
  · simp [h]

theorem new_block (w : World) (a : Addr) (v : Value) (O : Obj) : ((w.setCell a v).alloc O).heap[w.heap.size]? = some O := by
  have h : (w.setCell a v).heap.size = w.heap.size := by unfold World.setCell; simp
  show ((w.setCell a v).heap.push O)[w.heap.size]? = some O
  rw [Array.getElem?_push, if_pos h.symm]

theorem grow_world (w : World) (b o j k : Nat) (v x : Value) (O : Obj) (G : List Nat) (_hb : b < w.heap.size) :
    (((w.setCell ⟨b, o + 1, none⟩ v).setCell ⟨b, o, none⟩ x).alloc (rowObj G)).drewN (j + 2 + k) =
      (putRow (((((w.drewN j).setCell ⟨b, o + 1, none⟩ v).alloc O).drew.drew).setCell ⟨b, o, none⟩ x) (w.drewN j).heap.size G).drewN k := by
  have hd : ∀ (A B : World) (m : Nat), A.heap = B.heap → A.tape = B.tape → A.os = B.os → A.output = B.output → A.drawn + m = B.drawn → A.drewN m = B := by
    intro A B m h1 h2 h3 h4 h5
    cases A; cases B
    simp only at h1 h2 h3 h4 h5
    subst h1 h2 h3 h4
    simp only [World.drewN]
    congr 1
  refine hd _ _ _ ?_ rfl rfl rfl ?_
  · show (((w.setCell ⟨b, o + 1, none⟩ v).setCell ⟨b, o, none⟩ x).alloc (rowObj G)).heap = _
    apply Array.ext_getElem?
    intro i
    simp only [World.alloc, World.setCell, World.drew, World.drewN, putRow, Array.getElem?_push, Array.getElem?_setIfInBounds, Array.getElem?_modify, Array.size_modify, Array.size_push]
    by_cases h1 : i = w.heap.size
    · subst h1
      simp
    · have h1' : ¬ w.heap.size = i := fun e => h1 e.symm
      simp [h1, h1']
  · simp only [World.alloc, World.setCell, World.drew, World.drewN, putRow]; omega

theorem step_append_run {P : Program} {ops : Array Oper} {o : Oper} {a : Act} {w : World} {K : Act → World → Prop} {Q : Exit → Act → World → Prop} {E : Prop}
    (hg : o.guard = none) (s x : Operand) (t tn : TypeId) (ho : o.op = .call { callee := .builtin .append, args := #[s, x], argTypes := #[t, tn] }) (vs vx : Value) (hs : a.eval s = vs) (hx : a.eval x = vx)
    (v' : Value) (w' : World) (hr : (Builtin.append_ #[t, tn] o.type #[vs, vx]).run P w = .ok v' w') (hK : K (a.put o.dst v') w') :
    if Region.wanted o (yielded ops a.tmps) = true then Oper.wp P o a w K Q else E := by
  rw [if_pos (by simp [Region.wanted, hg])]
  exact Lib.wp_append_run w s x t tn ho vs vx hs hx v' w' hr hK

set_option maxRecDepth 100000 in
set_option maxHeartbeats 2000000 in
theorem record121_grow (b o g n s : Nat) (bin st : Int) (F : List Nat) (w : World) (hs : w.cell? ⟨b, o, none⟩ = some (.int .i32 st))
    (hv : w.cell? ⟨b, o + 1, none⟩ = some (.slice (some ⟨g, 0, none⟩) n F.length)) (hg : w.heap[g]? = some (rowObj F)) (hbg : b ≠ g) (hb : b < w.heap.size)
    (hf0 : w.frozen? ⟨b, o, none⟩ = false) (hf1 : w.frozen? ⟨b, o + 1, none⟩ = false)
    (h0 : 0 < n) (hnF : n ≤ F.length) (s1 : -1130000000 ≤ bin) (s2 : st ≤ 1130000000) (hsb : st - bin = (s : Int)) (hs0 : 0 < s) (hroom : F.length < n + s) (hns : n + s ≤ 1000) :
    Calls Tryz.prog 121 #[.pointer (some ⟨b, o, none⟩), .int .i32 bin] w fun e w' => e = .returned (.tuple #[]) ∧ ∃ G : List Nat, n + s ≤ G.length ∧ G.length ≤ maxLen ∧ G.take (n + s) = 1 :: (List.replicate (s - 1) 0 ++ F.take n) ∧
      Dr (((w.setCell ⟨b, o + 1, none⟩ (.slice (some ⟨w.heap.size, 0, none⟩) (n + s) G.length)).setCell ⟨b, o, none⟩ (.int .i32 bin)).alloc (rowObj G)) w' := by
  have hz : ((n : Int) == 0) = false := by simp; omega
  have q1 : ¬ st ≤ bin := by omega
  have q2 : bin < st := by omega
  have q3 : st + (n : Int) - 1 - bin + 1 = ((n + s : Nat) : Int) := by omega
  have q4 : (F.length : Int) < ((n + s : Nat) : Int) := by omega
  have q5 : decide (st ≤ bin) = false := by simpa using q2
  go_enter Tryz.func121, Tryz.ntmps121
  go_wp2_with fail
  go_quiet (fail)
  go_wp2_with fail
  obtain ⟨w1, hW1⟩ : ∃ w1, w1 = w.drewN nq := ⟨_, rfl⟩
  rw [← hW1]
  have hv2 : w1.cell? ⟨b, o + 1, none⟩ = some (.slice (some ⟨g, 0, none⟩) n F.length) := by rw [hW1]; exact hv
  have hs2 : w1.cell? ⟨b, o, none⟩ = some (.int .i32 st) := by rw [hW1]; exact hs
  have hfb2 : w1.frozen? ⟨b, o, none⟩ = false := by rw [hW1]; exact hf0
  have hfv2 : w1.frozen? ⟨b, o + 1, none⟩ = false := by rw [hW1]; exact hf1
  have hg2 : w1.heap[g]? = some (rowObj F) := by rw [hW1]; exact hg
  have hb2 : b < w1.heap.size := by rw [hW1]; exact hb
  have HW := Lib.hid hW1
  have hq2 : (n : Int) + (s : Int) - (n : Int) = (s : Int) := by omega
  have hq : IntKind.i64.wrap (s : Int) = (s : Int) := IntWalk.i64_in _ (by omega)
  obtain ⟨c, c1, c2, hrun⟩ := run_grow w1.drew 165 g n s F hg2 hnF hs0 hroom hns
  have HRUN := Lib.hid hrun
  have HG2 := Lib.hid hg2
  have hne : b ≠ w1.heap.size := by omega
  clear hW1 hs hv hg hf0 hf1 hrun hg2
  go_region_law (refine step_append_run rfl (.tmp 101) (.tmp 108) 165 3 rfl (.slice (some ⟨g, 0, none⟩) n F.length) (.int .i64 (s : Int)) rfl rfl _ _ HRUN.out ?_)
  all_goals
    go_wp2_with fail
    rw [setCell_twice]
    have hc63 : c ≤ 9223372036854775807 := by unfold maxLen at c2; omega
    have hsW : (((w1.setCell ⟨b, o + 1, none⟩ (.slice (some ⟨w1.heap.size, 0, none⟩) (n + s) c)).alloc (rowObj (grownRow F n c))).drew.drew).cell? ⟨b, o, none⟩ = some (.int .i32 st) := by go_simp
    have hvW : (((w1.setCell ⟨b, o + 1, none⟩ (.slice (some ⟨w1.heap.size, 0, none⟩) (n + s) c)).alloc (rowObj (grownRow F n c))).drew.drew).cell? ⟨b, o + 1, none⟩ = some (.slice (some ⟨w1.heap.size, 0, none⟩) (n + s) c) := by go_simp
    have hfW : (((w1.setCell ⟨b, o + 1, none⟩ (.slice (some ⟨w1.heap.size, 0, none⟩) (n + s) c)).alloc (rowObj (grownRow F n c))).drew.drew).frozen? ⟨b, o, none⟩ = false := by go_simp
    have hgW : (((w1.setCell ⟨b, o + 1, none⟩ (.slice (some ⟨w1.heap.size, 0, none⟩) (n + s) c)).alloc (rowObj (grownRow F n c))).drew.drew).heap[w1.heap.size]? = some (rowObj (grownRow F n c)) := by
      exact new_block _ _ _ _
    have HL := Lib.hid (grownRow_length F n c hnF (by omega))
    have HT := Lib.hid (grownRow_take F n c hnF)
    generalize hW : ((w1.setCell ⟨b, o + 1, none⟩ (.slice (some ⟨w1.heap.size, 0, none⟩) (n + s) c)).alloc (rowObj (grownRow F n c))).drew.drew = W0 at *
    generalize hg' : w1.heap.size = g' at *
    generalize hF' : grownRow F n c = F' at *
    have HG' := Lib.hid hg'
    have HF' := Lib.hid hF'
    have hbg0 := hbg
    have hbg := hne
    have HB := Lib.hid hb
    clear hne hg' hF' hb
    have HW0 := Lib.hid hW
    have HGW := Lib.hid hgW
    have hgs := Lib.hid (heap_lt hgW)
    have HBG := Lib.hid hbg
    clear hW hgW hbg hsb q3 hs2 hv2 hfb2 hfv2 hb2 hbg0 HRUN HG2
    go_loopw [8] (fun i wr => ∃ (k : Nat) (G : List Nat), k ≤ n ∧ i = .int .i64 ((k : Int) - 1) ∧ Dr (putRow W0 g' G) wr ∧ ShRel F' n s k G) (fun i _ => (intOf i + 1).toNat)
    case atStart => exact ⟨n, F', by omega, rfl, ⟨0, by rw [putRow_same _ _ _ HGW.out]; rfl⟩, ShRel.start F' n s⟩
    case round =>
      obtain ⟨k, G, hk, rfl, ⟨kd, hkd⟩, hsh⟩ := hrel
      have hvr : wr.cell? ⟨b, o + 1, none⟩ = some (.slice (some ⟨g', 0, none⟩) (n + s) c) := by
        rw [← hkd]; show (putRow W0 g' G).cell? _ = _; rw [putRow_cell_other _ _ _ _ _ HBG.out]; exact hvW
      have hsr : wr.cell? ⟨b, o, none⟩ = some (.int .i32 st) := by
        rw [← hkd]; show (putRow W0 g' G).cell? _ = _; rw [putRow_cell_other _ _ _ _ _ HBG.out]; exact hsW
      have hfr : wr.frozen? ⟨b, o, none⟩ = false := by
        rw [← hkd]; show (putRow W0 g' G).frozen? _ = _; rw [putRow_frozen_other _ _ _ _ _ HBG.out]; exact hfW
      have hcr := Lib.hid (show ∀ i, wr.cell? ⟨g', i, none⟩ = G[i]?.map U ∧ wr.frozen? ⟨g', i, none⟩ = false by
        intro i; rw [← hkd]; exact ⟨putRow_cell W0 g' i G hgs.out, putRow_frozen W0 g' i G hgs.out⟩)
      have HKD := Lib.hid hkd
      have HSH := Lib.hid hsh
      clear hkd hsh
      cases k with
      | zero =>
        rw [show ((0 : Nat) : Int) - 1 = -1 from rfl]
        go_wp2_with fail
        have hzr := Lib.hid (ZeRel.start HSH.out)
        obtain ⟨wo, hwo⟩ : ∃ wo : World, wo = wr := ⟨_, rfl⟩
        have HWO := Lib.hid hwo
        clear hwo
        go_loopw [9] (fun i wr => ∃ (k : Nat) (G : List Nat), 1 ≤ k ∧ k ≤ s ∧ i = .int .i64 (k : Int) ∧ Dr (putRow W0 g' G) wr ∧ ZeRel F' n s k G) (fun i _ => s - (intOf i).toNat)
        case atStart => exact ⟨1, G, by omega, by omega, rfl, ⟨kd, HKD.out⟩, hzr.out⟩
        case round =>
          clear hvr hsr hfr hcr HKD HSH hzr HWO
          clear wo
          clear G kd
          obtain ⟨k, G, hk1, hk2, rfl, ⟨kd, hkd⟩, hsh⟩ := hrel
          have hvr : wr.cell? ⟨b, o + 1, none⟩ = some (.slice (some ⟨g', 0, none⟩) (n + s) c) := by
            rw [← hkd]; show (putRow W0 g' G).cell? _ = _; rw [putRow_cell_other _ _ _ _ _ HBG.out]; exact hvW
          have hsr : wr.cell? ⟨b, o, none⟩ = some (.int .i32 st) := by
            rw [← hkd]; show (putRow W0 g' G).cell? _ = _; rw [putRow_cell_other _ _ _ _ _ HBG.out]; exact hsW
          have hfr : wr.frozen? ⟨b, o, none⟩ = false := by
            rw [← hkd]; show (putRow W0 g' G).frozen? _ = _; rw [putRow_frozen_other _ _ _ _ _ HBG.out]; exact hfW
          have HKD := Lib.hid hkd
          have HSH := Lib.hid hsh
          clear hkd hsh
          by_cases hlt : k < s
          · obtain ⟨y, hy⟩ : ∃ y, G[k]? = some y := ⟨_, List.getElem?_eq_getElem (by have := HSH.out.1; have := HL.out; omega)⟩
            have hc2 : wr.cell? ⟨g', k, none⟩ = some (U y) := by rw [← HKD.out]; exact (putRow_cell W0 g' k G hgs.out).trans (by rw [hy]; rfl)
            have hc3 : wr.frozen? ⟨g', k, none⟩ = false := by rw [← HKD.out]; exact putRow_frozen W0 g' k G hgs.out
            have hset := Lib.hid (show wr.setCell ⟨g', k, none⟩ (U 0) = (putRow W0 g' (G.set k 0)).drewN kd by
              rw [← HKD.out]; exact putRow_setCell (W0.drewN kd) g' k 0 G hgs.out)
            clear hy
            go_wp2_with (go_at_call 143; refine (storeU _ _ 0 _ hc2 hc3).mono ?_; rintro e w' ⟨rfl, rfl⟩)
            go_roundw
            case rel => exact ⟨k + 1, G.set k 0, by omega, by omega, by go_num, ⟨kd, hset.out.symm⟩, ZeRel.step HSH.out hlt (by rw [HL.out]; exact c1)⟩
            case measure => simp [intOf]; omega
          · obtain rfl : k = s := by omega
            obtain ⟨y, hy⟩ : ∃ y, G[0]? = some y := ⟨_, List.getElem?_eq_getElem (by have := HSH.out.1; have := HL.out; omega)⟩
            have hc2 : (wr.setCell ⟨b, o, none⟩ (.int .i32 bin)).cell? ⟨g', 0, none⟩ = some (U y) := by
              rw [World.cell?_of_block (Below.heap_setCell wr ⟨b, o, none⟩ _ g' (Ne.symm HBG.out)), ← HKD.out]; exact (putRow_cell W0 g' 0 G hgs.out).trans (by rw [hy]; rfl)
            have hc3 : (wr.setCell ⟨b, o, none⟩ (.int .i32 bin)).frozen? ⟨g', 0, none⟩ = false := by
              rw [World.frozen?_of_block (Below.heap_setCell wr ⟨b, o, none⟩ _ g' (Ne.symm HBG.out)), ← HKD.out]; exact putRow_frozen W0 g' 0 G hgs.out
            have hset := Lib.hid (show (wr.setCell ⟨b, o, none⟩ (.int .i32 bin)).setCell ⟨g', 0, none⟩ (U 1) = (putRow (W0.setCell ⟨b, o, none⟩ (.int .i32 bin)) g' (G.set 0 1)).drewN kd by
              rw [← HKD.out]
              show ((putRow (W0.drewN kd) g' G).setCell _ _).setCell _ _ = _
              rw [putRow_setCell_other _ _ _ _ _ _ HBG.out]
              exact putRow_setCell ((W0.drewN kd).setCell ⟨b, o, none⟩ (.int .i32 bin)) g' 0 1 G (by simpa [World.setCell] using hgs.out))
            have hfin := ZeRel.fin HSH.out hs0 (by rw [HL.out]; exact c1)
            have HF := Lib.hid hfin
            clear hfin hy hlt
            go_wp2_with (go_at_call 143; refine (storeU _ _ 1 _ hc2 hc3).mono ?_; rintro e w' ⟨rfl, rfl⟩)
            (try simp only [Exit.inBlock, Exit.then])
            refine bodyPost_ret (results_none rfl _ _ _) rfl ?_
            exact ⟨rfl, G.set 0 1, by rw [HF.out.1, HL.out]; exact c1, by rw [HF.out.1, HL.out]; exact c2, by rw [HF.out.2, HT.out], nq + 2 + kd, by rw [hset.out, ← HW0.out, ← HG'.out, HW.out, HF.out.1, HL.out]; exact grow_world w b o nq kd _ _ _ _ HB.out⟩
      | succ m =>
        rw [show ((m + 1 : Nat) : Int) - 1 = (m : Int) from by omega]
        obtain ⟨x, hx⟩ : ∃ x, F'[m]? = some x := ⟨_, List.getElem?_eq_getElem (by have := HL.out; omega)⟩
        obtain ⟨y, hy⟩ : ∃ y, G[m + s]? = some y := ⟨_, List.getElem?_eq_getElem (by have := HSH.out.1; have := HL.out; omega)⟩
        have HX := Lib.hid hx
        have hc1 : wr.cell? ⟨g', m, none⟩ = some (U x) := by rw [(hcr.out m).1, HSH.out.2.1 m (by omega), hx]; rfl
        have hc2 : wr.cell? ⟨g', m + s, none⟩ = some (U y) := by rw [(hcr.out (m + s)).1, hy]; rfl
        have hc3 : wr.frozen? ⟨g', m + s, none⟩ = false := (hcr.out (m + s)).2
        have hset := Lib.hid (show wr.setCell ⟨g', m + s, none⟩ (U x) = (putRow W0 g' (G.set (m + s) x)).drewN kd by
          rw [← HKD.out]; exact putRow_setCell (W0.drewN kd) g' (m + s) x G hgs.out)
        clear hx hy
        go_wp2_with fail
        refine wp_region_still_tail 16 (by kernel_rfl) (by kernel_rfl) ?_
        change wpStill _ _ wr.drew (fun a' => wpList _ _ _ _ a' wr.drew) _ _
        generalize hW2 : wr.drew = w2
        have hv2 : w2.cell? ⟨b, o + 1, none⟩ = some (.slice (some ⟨g', 0, none⟩) (n + s) c) := by rw [← hW2]; exact hvr
        have d1 : w2.cell? ⟨g', m, none⟩ = some (U x) := by rw [← hW2]; exact hc1
        have d2 : w2.cell? ⟨g', m + s, none⟩ = some (U y) := by rw [← hW2]; exact hc2
        have d3 : w2.frozen? ⟨g', m + s, none⟩ = false := by rw [← hW2]; exact hc3
        have HW2 := Lib.hid hW2
        clear hW2 hc1 hc2 hc3
        simp only [List.take_succ_cons, List.take_zero, List.drop_succ_cons, List.drop_zero]
        have w1 : IntKind.i64.wrap ((m : Int) + (s : Int)) = (m : Int) + (s : Int) := IntWalk.i64_in _ (by omega)
        have w0 : IntKind.i64.wrap (s : Int) = (s : Int) := IntWalk.i64_in _ (by omega)
        have w1' : ((m : Int) + (s : Int)).toNat = m + s := by omega
        have w2' : (m : Int) + (s : Int) < (n : Int) + (s : Int) := by omega
        have w3 : (0 : Int) ≤ (m : Int) + (s : Int) := by omega
        have w4 : (m : Int) < (n : Int) + (s : Int) := by omega
        repeat still_step
        still_call (load80' _ _ _ d1)
        refine wpStill_nil ?_
        go_wp2_with (go_at_call 143; refine (storeU _ _ _ _ d2 d3).mono ?_; rintro e w' ⟨rfl, rfl⟩)
        go_roundw
        case rel => exact ⟨m, G.set (m + s) x, by omega, rfl, ⟨kd + 1, by rw [← HW2.out, show wr.drew.setCell ⟨g', m + s, none⟩ (U x) = (wr.setCell ⟨g', m + s, none⟩ (U x)).drew from rfl, hset.out]; rfl⟩, ShRel.step HSH.out hs0 HX.out (by rw [HL.out]; exact c1) (by omega)⟩
        case measure => simp [intOf]
end Go.Proofs.YtlpddogcnpokfaaGreat
