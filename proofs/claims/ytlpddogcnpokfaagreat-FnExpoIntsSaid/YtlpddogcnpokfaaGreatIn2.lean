/- The int64 instances: measure, the builder. -/
import Derived.Test.YtlpddogcnpokfaaGreatIn1
namespace Go.Proofs.YtlpddogcnpokfaaGreat.I
open Go.RowKit

set_option maxRecDepth 100000 in
theorem newDp95 (g : Nat) (ms S : Int) (w : World) : Calls Tryz.prog 74 #[setV g, .int .i64 ms, .int .i32 S, .bool false, .bool false] w fun e w' =>
    ∃ d, e = .returned (.pointer (some ⟨d, 0, none⟩)) ∧ w.heap.size ≤ d ∧ Kept [] w w' ∧ w'.heap[d]? = some (.cells (dpCells g ms S) 169 (0, 0)) := by
  obtain ⟨W, hW⟩ : ∃ W, W = w.alloc (.cells #[.int .u64 H0, .slice (some ⟨g, 0, none⟩) 0 0] 99) := ⟨_, rfl⟩
  have hc : W.drew.cell? ⟨w.heap.size, 0, none⟩ = some (.int .u64 H0) ∧ W.drew.cell? ⟨w.heap.size, 1, none⟩ = some (.slice (some ⟨g, 0, none⟩) 0 0) := by
    subst hW
    refine ⟨?_, ?_⟩ <;> go_simp
  have HK := Lib.hid (show Kept [] w W.drew by subst hW; exact ((Kept.refl _ _).alloc _).dr ⟨1, rfl⟩)
  obtain ⟨l0, l1⟩ := hc
  unfold setV
  go_enter Tryz.func74, Tryz.ntmps74
  go_wp2_with fail
  rw [← hW]
  clear hW
  go_region_with (go_at_call 64; refine (now64L w.heap.size g _ ⟨l0, l1⟩).mono ?_; rintro e w' ⟨rfl, ⟨l0, l1⟩, hk⟩)
  all_goals
    have hs : w.heap.size ≤ w'.heap.size := (HK.out.trans hk.out).size
    have hfin := Lib.hid ((HK.out.trans hk.out).alloc (.cells (dpCells g ms S) 169))
    have hheap := Lib.hid (show (w'.alloc (.cells (dpCells g ms S) 169)).heap[w'.heap.size]? = some (.cells (dpCells g ms S) 169 (0, 0)) by
      unfold World.alloc; simp)
    have c10 : (w'.alloc (.cells (dpCells g ms 0) 169)).cell? ⟨w'.heap.size, 10, none⟩ = some (.int .i32 0) := by unfold dpCells; go_simp
    have f10 : (w'.alloc (.cells (dpCells g ms 0) 169)).frozen? ⟨w'.heap.size, 10, none⟩ = false := by unfold dpCells; go_simp
    unfold dpCells at hfin hheap c10 f10
    go_wp2_with fail
    refine (store112 _ _ _ _ c10 f10).mono ?_; rintro e w5 ⟨rfl, rfl⟩
    go_wp2_with fail
    go_ret
    exact ⟨w'.heap.size, rfl, hs, hfin.out, hheap.out⟩

/-- a map without entries -/
theorem look0 (b c : Nat) (h : Int) (w : World) (hb : w.heap[b]? = some (.map #[] c)) :
    (Instr.lookup 170 (.map (some b)) (.agg #[.int .u64 h]) true).run Tryz.prog w = .ok (.tuple #[.pointer none, .bool false]) w := by
  simp [Instr.lookup, run_underlying Tryz.underlying170, MapKept.run_getObj_map hb, check176, find0]

theorem look1 (b c n : Nat) (x : Value) (w : World) (hb : w.heap[b]? = some (.map #[⟨.agg #[.int .u64 H0], x, n⟩] c)) :
    (Instr.lookup 170 (.map (some b)) (.agg #[.int .u64 H0]) true).run Tryz.prog w = .ok (.tuple #[x, .bool true]) w := by
  simp [Instr.lookup, run_underlying Tryz.underlying170, MapKept.run_getObj_map hb, check176, find1]

theorem update0 (b c : Nat) (h : Int) (x : Value) (w : World) (hb : w.heap[b]? = some (.map #[] c)) :
    (Instr.mapUpdate 170 (.map (some b)) (.agg #[.int .u64 h]) x).run Tryz.prog w = .ok () (putMap w b #[⟨.agg #[.int .u64 h], x, c⟩] (c + 1)) := by
  simp [Instr.mapUpdate, run_underlying Tryz.underlying170, MapKept.run_getObj_map hb, check176, find0, MapKept.run_setObj_map _ hb, Result.andThen, putMap]

theorem DpAt.kept {w w' : World} {d : Nat} {mm : Option (Nat × Nat)} {fb : Nat} {ni ms : Int} {s : Bk} {og oh : Option Nat} (h : DpAt w d mm fb ni ms s og oh) (hk : Kept [] w w') : DpAt w' d mm fb ni ms s og oh := by
  have k := hk.pt h.lt
  have c : ∀ i, i ∉ ([] : List Nat) := by simp
  refine ⟨Nat.lt_of_lt_of_le h.lt hk.size, fun i => (k.fz i).trans (h.fz i), ?_, (k.cell _ (c _)).trans h.c5, (k.cell _ (c _)).trans h.c6, (k.cell _ (c _)).trans h.c7, (k.cell _ (c _)).trans h.c8, (k.cell _ (c _)).trans h.c9, h.fbl, h.bk.but k (by simp)⟩
  cases mm with
  | some m => exact h.mm.but k (by simp)
  | none =>
    obtain ⟨⟨cs, hb⟩, ⟨v0, h0⟩, ⟨v1, h1⟩, h2⟩ := h.mm
    exact ⟨⟨cs, hk.obj hb (by simp)⟩, ⟨v0, (k.cell _ (c _)).trans h0⟩, ⟨v1, (k.cell _ (c _)).trans h1⟩, (k.cell _ (c _)).trans h2⟩

theorem DpPost.past {w w4 w5 : World} {d v : Nat} {mm : Option (Nat × Nat)} {fb : Nat} {ni ms : Int} {s : Bk} {og oh : Option Nat} (h : DpPost w4 w5 d v mm fb ni ms s og oh) (hk : Kept [] w w4) (hd : d < w.heap.size) :
    DpPost w w5 d v mm fb ni ms s og oh := by
  obtain ⟨fb', ni', og', oh', h1, h2, h3, h4, h5, h6⟩ := h
  have hs := hk.size
  have nw : ∀ {a b : Option Nat}, Newer w4 a b → Newer w a b := by
    rintro a b (h | ⟨g, e, h⟩)
    · exact .inl h
    · exact .inr ⟨g, e, by omega⟩
  exact ⟨fb', ni', og', oh', h1, h2, (hk.sub (by simp)).trans h3, nw h4, nw h5, fun i hi => (h6 i hi).trans ((hk.pt hd).cell i (by simp))⟩

theorem part212 (w : World) (h : Nat) (cs : Array Value) (fz : Nat × Nat) (hh : w.heap[h]? = some (.cells cs 173 fz)) :
    (partAt ⟨h, 0, none⟩ 6 40).run Tryz.prog w = .ok ⟨h, 6, none⟩ w := by
  have k1 : Tryz.prog.cellsOf 173 = 7 := by kernel_rfl
  have k2 : byteOfCell Tryz.prog Tryz.prog.depth 173 0 = some 0 := by kernel_rfl
  have k3 : byteOfCell Tryz.prog Tryz.prog.depth 173 6 = some 40 := by kernel_rfl
  have hs : w.shape? h = some (173, cs.size) := by unfold World.shape?; rw [hh]
  simp [partAt, byteOf, noView, viewAt, hs, k1, k2, k3]
  done

set_option maxRecDepth 100000 in
theorem measure59_found (h b g c n d v top : Nat) (ms S : Int) (tm ctx : Value) (mm : Option (Nat × Nat)) (fb : Nat) (ni : Int) (s : Bk) (og oh : Option Nat) (w : World)
    (hh : w.heap[h]? = some (.cells (hgCells ms S b tm) 173 (0, 0))) (hb : w.heap[b]? = some (.map #[⟨.agg #[.int .u64 H0], .pointer (some ⟨d, 0, none⟩), n⟩] c)) (hd : DpAt w d mm fb ni ms s og oh)
    (hv : okI v) (hi : Lg.infW (fv v) = false) (hna : Lg.nanW (fv v) = false)
    (hzc : s.zc < 4611686018427387904) (R : absW (fv v) ≠ 0 → RecPre top (fv v) ms s) (hp : (recBk top ms (fv v) s).pl.length ≤ 1000) (hn : (recBk top ms (fv v) s).nl.length ≤ 1000) :
    Calls Tryz.prog 53 #[.pointer (some ⟨h, 0, none⟩), ctx, .int .i64 (sgn v), lazyV g] w fun e w' => e = .returned (.tuple #[]) ∧ DpPost w w' d v mm fb ni ms (recBk top ms (fv v) s) og oh := by
  have HB := Lib.hid hb
  have HH := Lib.hid hh
  have HD := Lib.hid hd
  have RR := Lib.hid R
  have HP := Lib.hid hp
  have HN := Lib.hid hn
  have HZ := Lib.hid hzc
  clear hb hd R hp hn hzc
  have HV := Lib.hid hv
  clear hv
  unfold lazyV
  go_enter_defers Tryz.func53, Tryz.ntmps53
  go_wp2_with fail
  refine (isInf33 (fv v) _ (fv_lt v)).mono ?_; rintro e w' ⟨rfl, rfl⟩
  rw [hi]
  go_wp2_with fail
  refine (isNaN32 (fv v) _).mono ?_; rintro e w' ⟨rfl, rfl⟩
  rw [hna]
  obtain ⟨W1, hW1⟩ : ∃ W1, W1 = w.alloc (.cells #[.int .u64 H0, .slice (some ⟨g, 0, none⟩) 0 0, .int .u64 H0, .int .u64 0, .slice none 0 0, .bool false] 178) := ⟨_, rfl⟩
  have K1 := Lib.hid (show Kept [] w W1 by rw [hW1]; exact (Kept.refl _ _).alloc _)
  have hh1 : W1.heap[h]? = some (.cells (hgCells ms S b tm) 173 (0, 0)) := K1.out.obj hh (by simp)
  have l0 : W1.cell? ⟨w.heap.size, 0, none⟩ = some (.int .u64 H0) := by rw [hW1]; go_simp
  have l1 : W1.cell? ⟨w.heap.size, 1, none⟩ = some (.slice (some ⟨g, 0, none⟩) 0 0) := by rw [hW1]; go_simp
  have l2 : W1.cell? ⟨w.heap.size, 2, none⟩ = some (.int .u64 H0) := by rw [hW1]; go_simp
  have l3 : W1.cell? ⟨w.heap.size, 3, none⟩ = some (.int .u64 0) := by rw [hW1]; go_simp
  have l4 : W1.cell? ⟨w.heap.size, 4, none⟩ = some (.slice none 0 0) := by rw [hW1]; go_simp
  have l5 : W1.cell? ⟨w.heap.size, 5, none⟩ = some (.bool false) := by rw [hW1]; go_simp
  have hpa := part212 W1 h _ _ hh1
  rw [← hW1]
  clear hW1 hh hh1
  go_wp2_with (go_at_call 68; refine (lock68 _ _).mono ?_; rintro e w' ⟨rfl, rfl⟩)
  refine (dist70 g W1).mono ?_; rintro e w2 ⟨rfl, hk2⟩
  have HK2 := Lib.hid (K1.out.trans hk2)
  clear hk2 hpa l0 l1 l2 l3 l4 l5
  go_wp2_with fail
  obtain ⟨W3, hW3⟩ : ∃ W3, W3 = w2.alloc (.cells #[.int .u64 H0] 176) := ⟨_, rfl⟩
  have K3 := Lib.hid (show Kept [] w W3 by rw [hW3]; exact HK2.out.alloc _)
  have e0 : W3.cell? ⟨w2.heap.size, 0, none⟩ = some (.int .u64 H0) := by rw [hW3]; go_simp
  have hh3 : W3.heap[h]? = some (.cells (hgCells ms S b tm) 173 (0, 0)) := K3.out.obj HH.out (by simp)
  have hb3 := K3.out.obj HB.out (by simp)
  have c5 : W3.cell? ⟨h, 5, none⟩ = some (.map (some b)) := by unfold World.cell? hgCells at *; simp [hh3]
  have hlk := fun k => look1 b c n (.pointer (some ⟨d, 0, none⟩)) (W3.drewN k) hb3
  rw [← hW3]
  clear hW3 hh3 hb3
  go_quiet (fail)
  generalize hW4 : W3.drewN _ = w4
  have K4 := Lib.hid (K3.out.dr ⟨_, hW4⟩)
  clear hW4 hlk c5 e0
  have HD4 := Lib.hid (HD.out.kept K4.out)
  go_wp2_with fail
  refine (record96 d v top mm fb ni ms s og oh w4 HD4.out HV.out HZ.out RR.out HP.out HN.out).mono ?_; rintro e w5 ⟨rfl, hq⟩
  have FIN := Lib.hid (hq.past K4.out HD.out.lt)
  clear hq
  go_wp2_with fail
  refine leaves_cons (f := 69) (args := #[.pointer (some ⟨h, 6, none⟩)]) (by show ¬ (FrameMode.returning = FrameMode.run); intro h; cases h) (by simp [go_sem]) ?_
  refine (unlock69 _ .returning _).mono ?_
  rintro e u' w'' ⟨rfl, rfl, rfl⟩
  exact ⟨_, results_none rfl _ _ _, rfl, FIN.out⟩

theorem DpAt.new {w : World} {d g : Nat} {ms S : Int} (h : w.heap[d]? = some (.cells (dpCells g ms S) 169 (0, 0))) : DpAt w d none 0 0 ms (Bk.fresh S) none none := by
  have hl : d < w.heap.size := heap_lt h
  have c : ∀ i, w.cell? ⟨d, i, none⟩ = (dpCells g ms S)[i]? := fun i => by unfold World.cell?; simp [h]
  refine ⟨hl, fun i => ?_, ⟨⟨_, h⟩, ⟨_, c 2⟩, ⟨_, c 3⟩, c 4⟩, c 5, c 6, c 7, c 8, c 9, by decide, ⟨c 10, ⟨c 11, .inl ⟨c 12, rfl, rfl⟩⟩, ⟨c 13, .inl ⟨c 14, rfl, rfl⟩⟩, c 15, fun _ e => by cases e⟩⟩
  unfold World.frozen?
  simp [h]

set_option maxHeartbeats 4000000 in
set_option maxRecDepth 100000 in
theorem measure59_first (h b g c v top : Nat) (ms S : Int) (tm ctx : Value) (w : World)
    (hh : w.heap[h]? = some (.cells (hgCells ms S b tm) 173 (0, 0))) (hb : w.heap[b]? = some (.map #[] c))
    (hov : ∀ w1, Kept [] w w1 → Calls Tryz.prog 71 #[] w1 fun e w' => ∃ x : Int, e = .returned (.agg #[.int .u64 x]) ∧ Kept [] w1 w')
    (hv : okI v) (hi : Lg.infW (fv v) = false) (hna : Lg.nanW (fv v) = false)
    (R : absW (fv v) ≠ 0 → RecPre top (fv v) ms (Bk.fresh S)) (hp : (recBk top ms (fv v) (Bk.fresh S)).pl.length ≤ 1000) (hn : (recBk top ms (fv v) (Bk.fresh S)).nl.length ≤ 1000) :
    Calls Tryz.prog 53 #[.pointer (some ⟨h, 0, none⟩), ctx, .int .i64 (sgn v), lazyV g] w fun e w' => e = .returned (.tuple #[]) ∧ ∃ d fb' ni' og' oh', w.heap.size ≤ d ∧ w'.heap[b]? = some (.map #[⟨.agg #[.int .u64 H0], .pointer (some ⟨d, 0, none⟩), c⟩] (c + 1)) ∧
      SumStep v 0 0 fb' ni' ∧ DpAt w' d (some (v, v)) fb' ni' ms (recBk top ms (fv v) (Bk.fresh S)) og' oh' ∧ Kept [b] w w' ∧ (∀ x, og' = some x → w.heap.size ≤ x) ∧ (∀ x, oh' = some x → w.heap.size ≤ x) ∧
      (∃ q, w'.cell? ⟨d, 0, none⟩ = some (.int .u64 H0) ∧ w'.cell? ⟨d, 1, none⟩ = some (.slice (some ⟨q, 0, none⟩) 0 0)) ∧ w'.cell? ⟨d, 16, none⟩ = some (.int .i64 0) := by
  have HB := Lib.hid hb
  have HH := Lib.hid hh
  have OV := Lib.hid hov
  have RR := Lib.hid R
  have HP := Lib.hid hp
  have HN := Lib.hid hn
  clear hb hov R hp hn
  have HV := Lib.hid hv
  clear hv
  unfold lazyV
  go_enter_defers Tryz.func53, Tryz.ntmps53
  refine Code.wp_mono (fun _ _ _ => quietEnd_le) ?_
  go_wp2_with fail
  refine (isInf33 (fv v) _ (fv_lt v)).mono ?_; rintro e w' ⟨rfl, rfl⟩
  rw [hi]
  go_wp2_with fail
  refine (isNaN32 (fv v) _).mono ?_; rintro e w' ⟨rfl, rfl⟩
  rw [hna]
  obtain ⟨W1, hW1⟩ : ∃ W1, W1 = w.alloc (.cells #[.int .u64 H0, .slice (some ⟨g, 0, none⟩) 0 0, .int .u64 H0, .int .u64 0, .slice none 0 0, .bool false] 178) := ⟨_, rfl⟩
  have K1 := Lib.hid (show Kept [] w W1 by rw [hW1]; exact (Kept.refl _ _).alloc _)
  have hh1 : W1.heap[h]? = some (.cells (hgCells ms S b tm) 173 (0, 0)) := K1.out.obj hh (by simp)
  have l0 : W1.cell? ⟨w.heap.size, 0, none⟩ = some (.int .u64 H0) := by rw [hW1]; go_simp
  have l1 : W1.cell? ⟨w.heap.size, 1, none⟩ = some (.slice (some ⟨g, 0, none⟩) 0 0) := by rw [hW1]; go_simp
  have l2 : W1.cell? ⟨w.heap.size, 2, none⟩ = some (.int .u64 H0) := by rw [hW1]; go_simp
  have l3 : W1.cell? ⟨w.heap.size, 3, none⟩ = some (.int .u64 0) := by rw [hW1]; go_simp
  have l4 : W1.cell? ⟨w.heap.size, 4, none⟩ = some (.slice none 0 0) := by rw [hW1]; go_simp
  have l5 : W1.cell? ⟨w.heap.size, 5, none⟩ = some (.bool false) := by rw [hW1]; go_simp
  have HH := Lib.hid hh1
  have HB := Lib.hid (K1.out.obj HB.out (by simp))
  have OV := Lib.hid (fun w' (k : Kept [] W1 w') => OV.out w' (K1.out.trans k))
  have hpa := part212 W1 h _ _ hh1
  rw [← hW1]
  clear hW1 hh hh1
  go_wp2_with (go_at_call 68; refine (lock68 _ _).mono ?_; rintro e w' ⟨rfl, rfl⟩)
  refine (dist70 g W1).mono ?_; rintro e w2 ⟨rfl, hk2⟩
  have HK2 := Lib.hid hk2
  have LZ := Lib.hid (And.intro l0 (And.intro l1 (And.intro l2 (And.intro l3 (And.intro l4 l5)))))
  clear hk2 hpa l0 l1 l2 l3 l4 l5
  go_wp2_with fail
  obtain ⟨W3, hW3⟩ : ∃ W3, W3 = w2.alloc (.cells #[.int .u64 H0] 176) := ⟨_, rfl⟩
  have K3 := Lib.hid (show Kept [] W1 W3 by rw [hW3]; exact HK2.out.alloc _)
  have e0 : W3.cell? ⟨w2.heap.size, 0, none⟩ = some (.int .u64 H0) := by rw [hW3]; go_simp
  have hh3 : W3.heap[h]? = some (.cells (hgCells ms S b tm) 173 (0, 0)) := K3.out.obj HH.out (by simp)
  have hb3 := K3.out.obj HB.out (by simp)
  have c5 : W3.cell? ⟨h, 5, none⟩ = some (.map (some b)) := by unfold World.cell? hgCells at *; simp [hh3]
  have hlk := fun k => look0 b c H0 (W3.drewN k) hb3
  rw [← hW3]
  clear hW3 hh3 hb3
  go_quiet (fail)
  generalize hW4 : W3.drewN _ = w4
  have K4 := Lib.hid (K3.out.dr ⟨_, hW4⟩)
  clear hW4 hlk c5 e0
  have c5' : w4.drew.cell? ⟨h, 5, none⟩ = some (.map (some b)) := by
    have hh3 := K4.out.obj HH.out (by simp)
    show w4.cell? _ = _
    unfold World.cell? hgCells at *; simp [hh3]
  have OV7 : Calls Tryz.prog 71 #[] w4.drew fun e w' => ∃ x : Int, e = .returned (.agg #[.int .u64 x]) ∧ w'.cell? ⟨h, 5, none⟩ = some (.map (some b)) ∧
      ((Instr.lookup 170 (.map (some b)) (.agg #[.int .u64 x]) true).run Tryz.prog w' = .ok (.tuple #[.pointer none, .bool false]) w') ∧ Hid (Kept [] W1 w') := by
    refine (OV.out _ (K4.out.dr ⟨1, rfl⟩)).mono ?_
    rintro e w' ⟨x, rfl, hk⟩
    have hk2 := (K4.out.dr ⟨1, rfl⟩).trans hk
    have hh3 := hk2.obj HH.out (by simp)
    refine ⟨x, rfl, ?_, look0 b c x w' (hk2.obj HB.out (by simp)), Lib.hid hk2⟩
    unfold World.cell? hgCells at *; simp [hh3]
  have O7 := Lib.hid OV7
  clear OV7
  go_wp2_with fail
  go_region_with (go_at_call 71; refine O7.out.mono ?_; rintro e w5 ⟨x, rfl, c5, hlk, hk⟩)
  all_goals
    clear c5' hlk c5 O7
    have z0 := (hk.out.cell (cell_lt LZ.out.1) (by simp)).trans LZ.out.1
    have z1 := (hk.out.cell (cell_lt LZ.out.2.1) (by simp)).trans LZ.out.2.1
    have z2 := (hk.out.cell (cell_lt LZ.out.2.2.1) (by simp)).trans LZ.out.2.2.1
    have z3 := (hk.out.cell (cell_lt LZ.out.2.2.2.1) (by simp)).trans LZ.out.2.2.2.1
    have z4 := (hk.out.cell (cell_lt LZ.out.2.2.2.2.1) (by simp)).trans LZ.out.2.2.2.2.1
    have z5 := (hk.out.cell (cell_lt LZ.out.2.2.2.2.2) (by simp)).trans LZ.out.2.2.2.2.2
    have hh5 := hk.out.obj HH.out (by simp)
    have c4 : w5.cell? ⟨h, 4, none⟩ = some (.int .i64 0) := by unfold World.cell? hgCells at *; simp [hh5]
    have hsz : w.heap.size < w5.heap.size := cell_lt z0
    have hlh : h < w5.heap.size := cell_lt c4
    clear hh5
    go_wp2_with fail
    go_quiet (fail)
    generalize hW6 : (w5.alloc (.cells #[.int .u64 0, .slice none 0 0] 99)).drewN _ = w6
    have K56 : Kept [] (w5.alloc (.cells #[.int .u64 0, .slice none 0 0] 99)) w6 := (Kept.refl _ _).dr ⟨_, hW6⟩
    have K6 := Lib.hid (hk.out.trans K56.past)
    have N6 := Lib.hid K56
    replace z0 := (K56.past.cell (cell_lt z0) (by simp)).trans z0
    replace z1 := (K56.past.cell (cell_lt z1) (by simp)).trans z1
    replace z2 := (K56.past.cell (cell_lt z2) (by simp)).trans z2
    replace z3 := (K56.past.cell (cell_lt z3) (by simp)).trans z3
    replace z4 := (K56.past.cell (cell_lt z4) (by simp)).trans z4
    replace z5 := (K56.past.cell (cell_lt z5) (by simp)).trans z5
    clear hW6 K56 c4
    go_wp2_with fail
    refine (set73 g w6).mono ?_; rintro e w7 ⟨rfl, hk7⟩
    have N7 := Lib.hid (N6.out.trans hk7)
    obtain ⟨d0, g0, d1, g1, hs7⟩ := set_new N7.out
    have K7 := Lib.hid (K6.out.trans hk7)
    clear hk7 z0 z1 z2 z3 z4 z5
    unfold setV
    go_wp2_with fail
    obtain ⟨W8, hW8⟩ : ∃ W8, W8 = (w7.setCell ⟨w5.heap.size, 0, none⟩ (.int .u64 H0)).setCell ⟨w5.heap.size, 1, none⟩ (.slice (some ⟨g, 0, none⟩) 0 0) := ⟨_, rfl⟩
    have K8 := Lib.hid (show Kept [] W1 W8 by rw [hW8]; exact (K7.out.setCell (.inr hk.out.size) _).setCell (.inr hk.out.size) _)
    have t0 : W8.drew.cell? ⟨w5.heap.size, 0, none⟩ = some (.int .u64 H0) := by rw [hW8]; go_simp
    have t1 : W8.drew.cell? ⟨w5.heap.size, 1, none⟩ = some (.slice (some ⟨g, 0, none⟩) 0 0) := by rw [hW8]; go_simp
    rw [← hW8]
    clear hW8 d0 g0 d1 g1
    have hh8 := K8.out.obj HH.out (by simp)
    have c0 : W8.drew.cell? ⟨h, 0, none⟩ = some (.bool false) := by show W8.cell? _ = _; unfold World.cell? hgCells at *; simp [hh8]
    have c1 : W8.drew.cell? ⟨h, 1, none⟩ = some (.bool false) := by show W8.cell? _ = _; unfold World.cell? hgCells at *; simp [hh8]
    have c2 : W8.drew.cell? ⟨h, 2, none⟩ = some (.int .i64 ms) := by show W8.cell? _ = _; unfold World.cell? hgCells at *; simp [hh8]
    have c3 : W8.drew.cell? ⟨h, 3, none⟩ = some (.int .i32 S) := by show W8.cell? _ = _; unfold World.cell? hgCells at *; simp [hh8]
    clear hh8
    refine wp_region_still_tail 17 (by kernel_rfl) (by kernel_rfl) ?_
    change wpStill _ _ W8.drew (fun a' => wpList _ _ _ _ a' W8.drew) _ _
    have K9 := Lib.hid (K8.out.dr (b := W8) (c := W8.drew) ⟨1, rfl⟩)
    generalize W8.drew = w9 at *
    simp only [List.take_succ_cons, List.take_zero, List.drop_succ_cons, List.drop_zero]
    repeat still_step
    refine wpStill_nil ?_
    go_wp2_with fail
    refine (newDp95 g ms S w9).mono ?_; rintro e w10 ⟨d, rfl, hd9, hk10, hdp⟩
    have K10 := Lib.hid (K9.out.trans hk10)
    have u0 := (hk10.cell (cell_lt t0) (by simp)).trans t0
    have DPN := Lib.hid hdp
    have HD9 := Lib.hid (Nat.le_trans K9.out.size hd9)
    clear hk10 hdp hd9 t0 t1 c0 c1 c2 c3
    have u5 : w10.drew.cell? ⟨h, 5, none⟩ = some (.map (some b)) := by
      have hh10 := K10.out.obj HH.out (by simp)
      show w10.cell? _ = _
      unfold World.cell? hgCells at *; simp [hh10]
    have E14 : Calls Tryz.prog 75 #[.pointer (some ⟨w5.heap.size, 0, none⟩)] w10.drew fun e w' => e = .returned (.agg #[.int .u64 H0]) ∧ w'.cell? ⟨h, 5, none⟩ = some (.map (some b)) ∧
        ((Instr.mapUpdate 170 (.map (some b)) (.agg #[.int .u64 H0]) (.pointer (some ⟨d, 0, none⟩))).run Tryz.prog w' = .ok () (putMap w' b #[⟨.agg #[.int .u64 H0], .pointer (some ⟨d, 0, none⟩), c⟩] (c + 1))) ∧ Hid (Kept [] w10 w') := by
      refine (equiv75 _ w10.drew u0).mono ?_
      rintro e w' ⟨rfl, rfl⟩
      have k : Kept [] w10 (w10.drew.alloc (.cells #[.int .u64 H0] 176)) := ((Kept.refl [] w10).dr ⟨1, rfl⟩).alloc _
      have hh10 := (K10.out.trans k).obj HH.out (by simp)
      refine ⟨rfl, ?_, update0 b c H0 _ _ ((K10.out.trans k).obj HB.out (by simp)), Lib.hid k⟩
      unfold World.cell? hgCells at *; simp [hh10]
    have O14 := Lib.hid E14
    clear E14 u0
    go_wp2_with fail
    go_region_with (go_at_call 75; refine O14.out.mono ?_; rintro e w11 ⟨rfl, u5, hup, hk11⟩)
    all_goals
      have hbl := heap_lt HB.out
      have hbd : b ≠ d := by have := HD9.out; omega
      have hbl11 : b < w11.heap.size := Nat.lt_of_lt_of_le hbl (K10.out.trans hk11.out).size
      obtain ⟨W12, hW12⟩ : ∃ W12, W12 = putMap w11 b #[⟨.agg #[.int .u64 H0], .pointer (some ⟨d, 0, none⟩), c⟩] (c + 1) := ⟨_, rfl⟩
      have K12 := Lib.hid (show Kept [b] W1 W12 by rw [hW12]; exact putMap_kept ((K10.out.trans hk11.out).sub fun i hi => nomatch hi) (List.mem_singleton.2 rfl) _ _)
      have B12 := Lib.hid (show W12.heap[b]? = some (.map #[⟨.agg #[.int .u64 H0], .pointer (some ⟨d, 0, none⟩), c⟩] (c + 1)) by rw [hW12]; exact putMap_at hbl11 _ _)
      have D12 := Lib.hid (show W12.heap[d]? = some (.cells (dpCells g ms S) 169 (0, 0)) by rw [hW12, putMap_other hbd]; exact hk11.out.obj DPN.out (by simp))
      rw [← hW12]
      clear hW12 hup u5
      go_wp2_with fail
      refine (record96 d v top none 0 0 ms (Bk.fresh S) none none W12 (DpAt.new D12.out) HV.out (show (0 : Nat) < 4611686018427387904 by decide) RR.out HP.out HN.out).mono ?_; rintro e w13 ⟨rfl, hq⟩
      have Q13 := Lib.hid hq
      clear hq
      go_wp2_with fail
      refine leaves_cons (f := 69) (args := #[.pointer (some ⟨h, 6, none⟩)]) (by show ¬ (FrameMode.returning = FrameMode.run); intro h; cases h) (by simp [go_sem]) ?_
      refine (unlock69 _ .returning _).mono ?_
      rintro e u' w'' ⟨rfl, rfl, rfl⟩
      refine ⟨_, results_none rfl _ _ _, rfl, ?_⟩
      obtain ⟨fb', ni', og', oh', h1, h2, h3, h4, h5, h6⟩ := Q13.out
      have hw1 := K1.out.size
      have h12 := K12.out.size
      have nw : ∀ {o : Option Nat}, Newer W12 none o → ∀ x, o = some x → w.heap.size ≤ x := by
        rintro o (rfl | ⟨y, rfl, h⟩) x e
        · cases e
        · cases e; omega
      have cc : ∀ i, W12.cell? ⟨d, i, none⟩ = (dpCells g ms S)[i]? := fun i => by unfold World.cell?; simp [D12.out]
      refine ⟨d, fb', ni', og', oh', by have := HD9.out; omega, h3.obj B12.out (by simpa using hbd), h1, h2, ?_, nw h4, nw h5, ⟨g, (h6 0 (by omega)).trans (cc 0), (h6 1 (by omega)).trans (cc 1)⟩, (h6 16 (by omega)).trans (cc 16)⟩
      refine ((K1.out.sub (S' := [b]) (by simp)).trans K12.out).trans2 h3 ?_
      intro i hi
      have hi' : i = d := by simpa using hi
      right; have := HD9.out; omega

set_option maxRecDepth 100000 in
/-- no limit of sets -/
theorem limiter92 (n : Int) (w : World) : Calls Tryz.prog 63 #[.int .i64 n] w fun e w' => e = .returned (.agg #[.int .i64 n]) ∧ Kept [] w w' := by
  go_enter Tryz.func63, Tryz.ntmps63
  go_wp2_with fail
  have hfin := Lib.hid ((Kept.refl [] w).alloc (.cells #[.int .i64 n] 148))
  have r0 : (w.alloc (.cells #[.int .i64 n] 148)).cell? ⟨w.heap.size, 0, none⟩ = some (.int .i64 n) := by go_simp
  generalize w.alloc (.cells #[.int .i64 n] 148) = X at *
  (try simp only [Exit.inBlock, Exit.then])
  refine bodyPost_ret (by simp [results, Tryz.results63, go_sem, r0]; rfl) rfl ?_
  exact ⟨rfl, hfin.out⟩

set_option maxRecDepth 100000 in
theorem newHg57 (ms S : Int) (w : World) (h1 : 0 ≤ ms) (h2 : ms ≤ 1000) : Calls Tryz.prog 51 #[.int .i32 ms, .int .i32 S, .bool false, .bool false, .int .i64 0] w fun e w' =>
    ∃ h b, e = .returned (.pointer (some ⟨h, 0, none⟩)) ∧ w'.heap[h]? = some (.cells (hgCells ms S b (.int .i64 0)) 173 (0, 0)) ∧ w'.heap[b]? = some (.map #[] 0) ∧ h ≠ b ∧ w.heap.size ≤ h ∧ w.heap.size ≤ b ∧ Kept [] w w' := by
  have hmk : ∀ w : World, (Instr.makeMap 170 none).run Tryz.prog w = .ok (.map (some w.heap.size)) (w.alloc (.map #[] 0)) := fun _ => by kernel_rfl
  have hw : IntKind.i64.wrap ms = ms := IntWalk.i64_in _ (by omega)
  go_enter Tryz.func51, Tryz.ntmps51
  go_wp2_with fail
  refine (limiter92 0 w).mono ?_; rintro e w1 ⟨rfl, hk1⟩
  have K1 := Lib.hid hk1
  clear hk1
  go_wp2_with fail
  refine (now64 _).mono ?_; rintro e w2 ⟨rfl, hk2⟩
  have K2 := Lib.hid hk2
  clear hk2
  go_wp2_with fail
  have m1 : (w1.alloc (.map #[] 0)).heap[w1.heap.size]? = some (.map #[] 0) := by unfold World.alloc; simp
  have m2 := K2.out.obj m1 (by simp)
  have l1 := heap_lt m2
  have hs1 := K1.out.size
  have k3 := K1.out.trans ((((Kept.refl [] w1).alloc (.map #[] 0)).trans K2.out).alloc (.cells (hgCells ms S w1.heap.size (.int .i64 0)) 173))
  have m3 : (w2.alloc (.cells (hgCells ms S w1.heap.size (.int .i64 0)) 173)).heap[w2.heap.size]? = some (.cells (hgCells ms S w1.heap.size (.int .i64 0)) 173 (0, 0)) := by unfold World.alloc; simp
  have m4 : (w2.alloc (.cells (hgCells ms S w1.heap.size (.int .i64 0)) 173)).heap[w1.heap.size]? = some (.map #[] 0) := ((Kept.refl [] w2).alloc _).obj m2 (by simp)
  go_ret
  exact ⟨w2.heap.size, w1.heap.size, rfl, m3, m4, by omega, by omega, hs1, k3⟩

set_option maxRecDepth 100000 in
theorem filter58 (tp : Int) (h : Nat) (w : World) : Calls Tryz.prog 52 #[bldV tp, .func (.func 53) #[.pointer (some ⟨h, 0, none⟩)] #[]] w fun e w' => ∃ p, e = .returned (.func (.func 67) #[] #[.pointer (some ⟨p, 0, none⟩)]) ∧ w'.cell? ⟨p, 0, none⟩ = some (.func (.func 53) #[.pointer (some ⟨h, 0, none⟩)] #[]) ∧ w.heap.size ≤ p ∧ Kept [] w w' := by
  have hnf : ∀ w, (binOp .neq 85 .nilFunc .nilFunc).run Tryz.prog w = .ok (.bool false) w := fun _ => by kernel_rfl
  unfold bldV
  go_enter Tryz.func52, Tryz.ntmps52
  go_wp2_with fail
  have r0 : ((w.alloc (.cells #[.int .u8 tp, .nilFunc, .int .i64 0] 87)).alloc (.cells #[.func (.func 53) #[.pointer (some ⟨h, 0, none⟩)] #[]] 174)).cell? ⟨w.heap.size + 1, 0, none⟩ = some (.func (.func 53) #[.pointer (some ⟨h, 0, none⟩)] #[]) := by go_simp
  go_ret
  exact ⟨_, rfl, r0, by omega, ((Kept.refl _ _).alloc _).alloc _⟩

set_option maxRecDepth 100000 in
theorem bld47 (ms S : Int) (w : World) (h1 : 0 ≤ ms) (h2 : ms ≤ 1000) : Calls Tryz.prog 43 #[bldV 2, .int .i32 ms, .int .i32 S, .bool false, .bool false] w fun e w' => ∃ p h b,
    e = .returned (.tuple #[.func (.func 67) #[] #[.pointer (some ⟨p, 0, none⟩)], .func (.func 54) #[.pointer (some ⟨h, 0, none⟩)] #[]]) ∧ w'.cell? ⟨p, 0, none⟩ = some (.func (.func 53) #[.pointer (some ⟨h, 0, none⟩)] #[]) ∧
    w'.heap[h]? = some (.cells (hgCells ms S b (.int .i64 0)) 173 (0, 0)) ∧ w'.heap[b]? = some (.map #[] 0) ∧ h ≠ b ∧ w.heap.size ≤ p ∧ w.heap.size ≤ h ∧ w.heap.size ≤ b ∧ Kept [] w w' := by
  unfold bldV
  go_enter Tryz.func43, Tryz.ntmps43
  go_wp2_with fail
  refine (newHg57 ms S _ h1 h2).mono ?_; rintro e w1 ⟨h, b, rfl, hh, hb, hne, hlh, hlb, hk⟩
  have e0 : w1.cell? ⟨w.heap.size, 0, none⟩ = some (.int .u8 2) := (hk.new (by simp) 0).1
  have e1 : w1.cell? ⟨w.heap.size, 1, none⟩ = some .nilFunc := (hk.new (by simp) 1).1
  have e2 : w1.cell? ⟨w.heap.size, 2, none⟩ = some (.int .i64 0) := (hk.new (by simp) 2).1
  rw [alloc_size] at hlh hlb
  have K := Lib.hid hk.past
  have HH := Lib.hid hh
  have HB := Lib.hid hb
  clear hk hh hb
  go_wp2_with fail
  refine (filter58 2 h w1).mono ?_; rintro e w2 ⟨p, rfl, hp, hlp, hk2⟩
  have HP := Lib.hid hp
  have K2 := Lib.hid hk2
  clear hp hk2 e0 e1 e2
  go_wp2_with fail
  (try simp only [Exit.inBlock, Exit.then])
  go_ret2
  have := K.out.size
  exact ⟨p, h, b, rfl, HP.out, K2.out.obj HH.out (by simp), K2.out.obj HB.out (by simp), hne, by omega, by omega, by omega, K.out.trans K2.out⟩

end Go.Proofs.YtlpddogcnpokfaaGreat.I
