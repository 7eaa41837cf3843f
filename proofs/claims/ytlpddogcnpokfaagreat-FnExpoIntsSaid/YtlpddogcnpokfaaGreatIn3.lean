/- The int64 instances: the map of one point, the collections without a point. -/
import Derived.Test.YtlpddogcnpokfaaGreatIn2
namespace Go.Proofs.YtlpddogcnpokfaaGreat.I
open Go.RowKit

/-- the sum, in the floats' shape -/
theorem sumI99 (b o : Nat) (ni : Int) (w : World) (h1 : w.cell? ⟨b, o + 1, none⟩ = some (.int .i64 ni)) :
    Calls Tryz.prog 82 #[.pointer (some ⟨b, o, none⟩)] w fun e w' => Dr w w' ∧ ∃ r : Int, e = .returned (.int .i64 r) ∧ True ∧ r = ni :=
  (sum99 b o ni w h1).mono fun _ _ ⟨h, k⟩ => ⟨⟨0, k⟩, ni, h, trivial, rfl⟩

/-- the least and the greatest one -/
def mmOf (l : List Nat) : Option (Nat × Nat) := l.foldl (fun m v => some (mmOpt v m)) none

theorem mmOf_snoc (l : List Nat) (v : Nat) : mmOf (l ++ [v]) = some (mmOpt v (mmOf l)) := by simp [mmOf]

/-- the parts of a sum behind a list of numbers, the last one first -/
def SumRun : List Nat → Nat → Int → Prop
  | [], fb, ni => fb = 0 ∧ ni = 0
  | v :: l, fb', ni' => ∃ fb ni, SumRun l fb ni ∧ SumStep v fb ni fb' ni'

theorem cells131 : Tryz.prog.cellsOf 116 = 18 := by kernel_rfl

theorem cells125 : Tryz.prog.cellsOf 106 = 2 := by kernel_rfl

def zeroPt : Array Value := #[.int .u64 0, .slice none 0 0, .int .i64 0, .int .i64 0, .int .u64 0, .int .i64 0, .bool false, .int .i64 0, .bool false, .int .i64 0, .int .i32 0, .int .u64 0, .int .i32 0, .slice none 0 0, .int .i32 0, .slice none 0 0, .float .f64 0, .slice none 0 0]

theorem run_make123 (w : World) : (Instr.makeSlice 104 (.int .i64 1) (.int .i64 1)).run Tryz.prog w = .ok (.slice (some ⟨w.heap.size, 0, none⟩) 1 1) (w.alloc (.cells zeroPt 116)) := by kernel_rfl

set_option maxRecDepth 100000 in
theorem reset97_nil (w : World) : Calls Tryz.prog 77 #[.slice none 0 0, .int .i64 0, .int .i64 0] w fun e w' => e = .returned (.slice none 0 0) ∧ w = w' := by
  go_enter Tryz.func77, Tryz.ntmps77
  go_wp2_with fail
  go_ret
  exact ⟨rfl, rfl⟩

set_option maxRecDepth 100000 in
theorem reset97_one (w : World) : Calls Tryz.prog 77 #[.slice none 0 0, .int .i64 1, .int .i64 1] w fun e w' => e = .returned (.slice (some ⟨w.heap.size, 0, none⟩) 1 1) ∧ w.alloc (.cells zeroPt 116) = w' := by
  have hmk := fun w => run_make123 w
  go_enter Tryz.func77, Tryz.ntmps77
  go_wp2_with fail
  go_ret
  exact ⟨rfl, rfl⟩

set_option maxRecDepth 100000 in
theorem newExt100 (n : Int) (w : World) : Calls Tryz.prog 84 #[.int .i64 n] w fun e w' => e = .returned (.agg #[.int .i64 n, .bool true]) ∧ Kept [] w w' := by
  go_enter Tryz.func84, Tryz.ntmps84
  go_wp2_with fail
  have hfin := Lib.hid ((Kept.refl [] w).alloc (.cells #[.int .i64 n, .bool true] 111))
  have r0 : (w.alloc (.cells #[.int .i64 n, .bool true] 111)).cell? ⟨w.heap.size, 0, none⟩ = some (.int .i64 n) := by go_simp
  have r1 : (w.alloc (.cells #[.int .i64 n, .bool true] 111)).cell? ⟨w.heap.size, 1, none⟩ = some (.bool true) := by go_simp
  generalize w.alloc (.cells #[.int .i64 n, .bool true] 111) = X at *
  (try simp only [Exit.inBlock, Exit.then])
  refine bodyPost_ret (by simp [results, Tryz.results84, go_sem, r0, r1]; rfl) rfl ?_
  exact ⟨rfl, hfin.out⟩

set_option maxRecDepth 100000 in
theorem extVal48 (n : Int) (b : Bool) (w : World) : Calls Tryz.prog 46 #[.agg #[.int .i64 n, .bool b]] w fun e w' => e = .returned (.tuple #[.int .i64 n, .bool b]) ∧ Kept [] w w' := by
  go_enter Tryz.func46, Tryz.ntmps46
  go_wp2_with fail
  go_quiet (fail)
  go_wp2_with fail
  go_ret2
  exact ⟨rfl, ((Kept.refl [] w).alloc _).dr ⟨_, rfl⟩⟩

/-- what lies in the map of a histogram behind a list of numbers; F: the blocks that it takes -/
def MapAt (w : World) (b top : Nat) (ms S : Int) (l : List Nat) (F : List Nat) : Prop :=
  (l = [] ∧ F = [] ∧ ∃ c, w.heap[b]? = some (.map #[] c)) ∨
  (l ≠ [] ∧ ∃ d n c fb ni og oh, w.heap[b]? = some (.map #[⟨.agg #[.int .u64 H0], .pointer (some ⟨d, 0, none⟩), n⟩] c) ∧ n < c ∧ SumRun l.reverse fb ni ∧ DpAt w d (mmOf l) fb ni ms (bkOf top ms S (l.map fv)) og oh ∧
    F = d :: (og.toList ++ oh.toList) ∧ (∃ q, w.cell? ⟨d, 0, none⟩ = some (.int .u64 H0) ∧ w.cell? ⟨d, 1, none⟩ = some (.slice (some ⟨q, 0, none⟩) 0 0)) ∧ w.cell? ⟨d, 16, none⟩ = some (.int .i64 0) ∧ d ≠ b)

/-- a measurement -/
theorem measure59 (h b g v top B : Nat) (ms S : Int) (l F : List Nat) (tm ctx : Value) (w : World)
    (hh : w.heap[h]? = some (.cells (hgCells ms S b tm) 173 (0, 0))) (hm : MapAt w b top ms S l F) (hbF : b ∉ F)
    (hov : ∀ w1, Calls Tryz.prog 71 #[] w1 fun e w' => ∃ x : Int, e = .returned (.agg #[.int .u64 x]) ∧ Kept [] w1 w')
    (fine : Fine top ms ((top : Int) - S).toNat B (l.map fv ++ [fv v])) (hv : okI v) (hs : 1 ≤ ms) (hs2 : ms ≤ 200) (ht : top ≤ 20) (hS : S ≤ top) (_hS2 : -10 ≤ S) (hl : l.length < 1000) :
    Calls Tryz.prog 53 #[.pointer (some ⟨h, 0, none⟩), ctx, .int .i64 (sgn v), lazyV g] w fun e w' => e = .returned (.tuple #[]) ∧ ∃ F', MapAt w' b top ms S (l ++ [v]) F' ∧ Kept (b :: F) w w' ∧ (∀ i, i ∈ F' → i ∈ F ∨ w.heap.size ≤ i) ∧ b ∉ F' := by
  obtain ⟨v1, v2, v3⟩ := mem_snoc_fin fine
  have hfin : Lg.nanW (fv v) = false ∧ Lg.infW (fv v) = false := (Lg.fin_iff (fv v)).1 v2
  have hlim := fine.left.lim hs hs2 ht hS (by rw [List.length_map]; omega)
  have hlim2 := fine.lim hs hs2 ht hS (by simp; omega)
  rw [bkOf_snoc] at hlim2
  have hpre : absW (fv v) ≠ 0 → RecPre top (fv v) ms (bkOf top ms S (l.map fv)) := fun h0 => hlim.1.pre hs hs2 ht hlim.2.1 v1 h0 v2 (v3 h0)
  have e1 := hlim2.1.pl
  have e2 := hlim2.1.nl
  rcases hm with ⟨rfl, rfl, c, hb⟩ | ⟨hne, d, n, c, fb, ni, og, oh, hb, hnc, hsum, hd, rfl, hq, h16, hdb⟩
  · refine (measure59_first h b g c v top ms S tm ctx w hh hb (fun w1 _ => hov w1) hv hfin.2 hfin.1 hpre (Nat.le_trans e1 (by decide)) (Nat.le_trans e2 (by decide))).mono ?_
    rintro e w' ⟨he, d, fb', ni', og', oh', k1, k2, k3, k4, k5, k6, k7, k8, k9⟩
    have hbl := heap_lt hb
    refine ⟨he, d :: (og'.toList ++ oh'.toList), .inr ⟨by simp, d, c, c + 1, fb', ni', og', oh', k2, by omega, ⟨0, 0, ⟨rfl, rfl⟩, k3⟩, k4, rfl, k8, k9, by omega⟩, k5, ?_, ?_⟩
    · intro i hi
      right
      simp only [List.mem_cons, List.mem_append, Option.mem_toList] at hi
      rcases hi with rfl | hi | hi
      · exact k1
      · exact k6 i hi
      · exact k7 i hi
    · intro hi
      simp only [List.mem_cons, List.mem_append, Option.mem_toList] at hi
      rcases hi with rfl | hi | hi
      · omega
      · have := k6 _ hi; omega
      · have := k7 _ hi; omega
  · have z : (bkOf top ms S (l.map fv)).zc < 4611686018427387904 := by have := hlim.1.sum; omega
    refine (measure59_found h b g c n d v top ms S tm ctx (mmOf l) fb ni (bkOf top ms S (l.map fv)) og oh w hh hb hd hv hfin.2 hfin.1 z hpre (Nat.le_trans e1 (by decide)) (Nat.le_trans e2 (by decide))).mono ?_
    rintro e w' ⟨he, fb', ni', og', oh', k1, k2, k3, k4, k5, k6⟩
    have hbl := heap_lt hb
    refine ⟨he, d :: (og'.toList ++ oh'.toList), .inr ⟨by simp, d, n, c, fb', ni', og', oh', k3.obj hb hbF, hnc, ?_, ?_, rfl, ?_, (k6 16 (by omega)).trans h16, hdb⟩, k3.sub (fun i hi => List.mem_cons_of_mem _ hi), ?_, ?_⟩
    · rw [List.reverse_append]; exact ⟨fb, ni, hsum, k1⟩
    · rw [mmOf_snoc, List.map_append, show List.map fv [v] = [fv v] from rfl, bkOf_snoc]; exact k2
    · obtain ⟨q, q1, q2⟩ := hq
      exact ⟨q, (k6 0 (by omega)).trans q1, (k6 1 (by omega)).trans q2⟩
    · intro i hi
      simp only [List.mem_cons, List.mem_append] at hi
      rcases hi with rfl | hi | hi
      · left; simp
      · rcases k4.mem hi with h | h
        · left; simp only [List.mem_cons, List.mem_append]; exact .inr (.inl h)
        · exact .inr h
      · rcases k5.mem hi with h | h
        · left; simp only [List.mem_cons, List.mem_append]; exact .inr (.inr h)
        · exact .inr h
    · intro hi
      simp only [List.mem_cons, List.mem_append] at hi hbF
      rcases hi with hi | hi | hi
      · exact hdb hi.symm
      · rcases k4.mem hi with h | h
        · exact hbF (.inr (.inl h))
        · omega
      · rcases k5.mem hi with h | h
        · exact hbF (.inr (.inr h))
        · omega

/-- what is kept keeps the map's point -/
theorem MapAt.kept {w w' : World} {b top : Nat} {ms S : Int} {l F K : List Nat} (h : MapAt w b top ms S l F) (hk : Kept K w w') (hb : b ∉ K) (hF : ∀ i, i ∈ F → i ∉ K) : MapAt w' b top ms S l F := by
  rcases h with ⟨rfl, rfl, c, hm⟩ | ⟨hne, d, n, c, fb, ni, og, oh, hm, hnc, hsum, hd, rfl, ⟨q, q1, q2⟩, h16, hdb⟩
  · exact .inl ⟨rfl, rfl, c, hk.obj hm hb⟩
  · have hdK : d ∉ K := hF d (by simp)
    have bd : w'.heap[d]? = w.heap[d]? := hk.block d hd.lt hdK
    have c : ∀ i, w'.cell? ⟨d, i, none⟩ = w.cell? ⟨d, i, none⟩ := fun i => World.cell?_of_block bd
    have fz : ∀ i, w'.frozen? ⟨d, i, none⟩ = w.frozen? ⟨d, i, none⟩ := fun i => World.frozen?_of_block bd
    have bg : ∀ g, og = some g → w'.heap[g]? = w.heap[g]? := fun g e => hk.block g (hd.bk.P.lt e).1 (hF g (by simp [e]))
    have bh : ∀ g, oh = some g → w'.heap[g]? = w.heap[g]? := fun g e => hk.block g (hd.bk.N.lt e).1 (hF g (by simp [e]))
    refine .inr ⟨hne, d, n, _, fb, ni, og, oh, hk.obj hm hb, hnc, hsum, ⟨Nat.lt_of_lt_of_le hd.lt hk.size, fun i => (fz i).trans (hd.fz i), ?_, (c _).trans hd.c5, (c _).trans hd.c6, (c _).trans hd.c7, (c _).trans hd.c8, (c _).trans hd.c9, hd.fbl,
      ⟨(c _).trans hd.bk.sc, hd.bk.P.ofHeap bd bg, hd.bk.N.ofHeap bd bh, (c _).trans hd.bk.z, hd.bk.ap⟩⟩, rfl, ⟨q, (c _).trans q1, (c _).trans q2⟩, (c _).trans h16, hdb⟩
    have hmm := hd.mm
    cases hmo : mmOf l with
    | none =>
      rw [hmo] at hmm
      obtain ⟨⟨cs, hb⟩, ⟨v0, h0⟩, ⟨v1, h1⟩, h2⟩ := hmm
      exact ⟨⟨cs, bd.trans hb⟩, ⟨v0, (c _).trans h0⟩, ⟨v1, (c _).trans h1⟩, (c _).trans h2⟩
    | some p =>
      rw [hmo] at hmm
      obtain ⟨mn, mx⟩ := p
      obtain ⟨a0, a1, a2⟩ := hmm
      exact ⟨(c _).trans a0, (c _).trans a1, (c _).trans a2⟩

set_option maxRecDepth 100000 in
/-- a measurement through the function that was handed out -/
theorem flt94 (p h b g v top B : Nat) (ms S : Int) (l F : List Nat) (tm ctx : Value) (w : World)
    (hp : w.cell? ⟨p, 0, none⟩ = some (.func (.func 53) #[.pointer (some ⟨h, 0, none⟩)] #[]))
    (hh : w.heap[h]? = some (.cells (hgCells ms S b tm) 173 (0, 0))) (hm : MapAt w b top ms S l F) (hbF : b ∉ F)
    (hov : ∀ w1, Calls Tryz.prog 71 #[] w1 fun e w' => ∃ x : Int, e = .returned (.agg #[.int .u64 x]) ∧ Kept [] w1 w')
    (fine : Fine top ms ((top : Int) - S).toNat B (l.map fv ++ [fv v])) (hv : okI v) (hs : 1 ≤ ms) (hs2 : ms ≤ 200) (ht : top ≤ 20) (hS : S ≤ top) (hS2 : -10 ≤ S) (hl : l.length < 1000) :
    Calls Tryz.prog 67 #[ctx, .int .i64 (sgn v), setV g, .pointer (some ⟨p, 0, none⟩)] w fun e w' => e = .returned (.tuple #[]) ∧ ∃ F', MapAt w' b top ms S (l ++ [v]) F' ∧ Kept (b :: F) w w' ∧ (∀ i, i ∈ F' → i ∈ F ∨ w.heap.size ≤ i) ∧ b ∉ F' := by
  have hpl := cell_lt hp
  obtain ⟨W, hW⟩ : ∃ W, W = w.alloc (.cells #[.int .u64 H0, .slice (some ⟨g, 0, none⟩) 0 0] 99) := ⟨_, rfl⟩
  have HK := Lib.hid (show Kept [] w W.drew by rw [hW]; exact ((Kept.refl _ _).alloc _).dr ⟨1, rfl⟩)
  have l0 : W.drew.cell? ⟨w.heap.size, 0, none⟩ = some (.int .u64 H0) := by subst hW; go_simp
  have l1 : W.drew.cell? ⟨w.heap.size, 1, none⟩ = some (.slice (some ⟨g, 0, none⟩) 0 0) := by subst hW; go_simp
  have lp : W.drew.cell? ⟨p, 0, none⟩ = some (.func (.func 53) #[.pointer (some ⟨h, 0, none⟩)] #[]) := by subst hW; show (w.alloc _).cell? _ = _; rw [← hp]; exact ((Kept.refl [] w).alloc _).cell hpl (by simp)
  have C66 : ∀ (w1 : World), w1.cell? ⟨p, 0, none⟩ = some (.func (.func 53) #[.pointer (some ⟨h, 0, none⟩)] #[]) → Calls Tryz.prog 66 #[setV g, .nilFunc] w1 fun e w' => e = .returned (lazyV g) ∧ w'.cell? ⟨p, 0, none⟩ = some (.func (.func 53) #[.pointer (some ⟨h, 0, none⟩)] #[]) ∧ Hid (Kept [] w1 w') := by
    intro w1 h1
    refine (lazy66 g w1).mono ?_
    rintro e w' ⟨rfl, hk⟩
    exact ⟨rfl, (hk.cell (cell_lt h1) (by simp)).trans h1, Lib.hid hk⟩
  have C59 : ∀ w1, Kept [] w w1 → Calls Tryz.prog 53 #[.pointer (some ⟨h, 0, none⟩), ctx, .int .i64 (sgn v), lazyV g] w1 fun e w' => e = .returned (.tuple #[]) ∧ Hid (∃ F', MapAt w' b top ms S (l ++ [v]) F' ∧ Kept (b :: F) w w' ∧ (∀ i, i ∈ F' → i ∈ F ∨ w.heap.size ≤ i) ∧ b ∉ F') := by
    intro w1 hk
    refine (measure59 h b g v top B ms S l F tm ctx w1 (hk.obj hh (by simp)) (hm.kept hk (by simp) (by simp)) hbF hov fine hv hs hs2 ht hS hS2 hl).mono ?_
    rintro e w' ⟨he, F', m1, m2, m3, m4⟩
    exact ⟨he, Lib.hid ⟨F', m1, (hk.sub (by simp)).trans m2, fun i hi => (m3 i hi).imp id fun h => Nat.le_trans hk.size h, m4⟩⟩
  clear hh hm hbF fine hp
  unfold setV lazyV at *
  go_enter Tryz.func67, Tryz.ntmps67
  go_wp2_with fail
  rw [← hW]
  clear hW
  go_region_with (first | (go_at_call 66; refine (C66 _ lp).mono ?_; rintro e w' ⟨rfl, lp, hk⟩) | (go_at_call 53; refine (C59 _ (HK.out.trans hk.out)).mono ?_; rintro e w2 ⟨rfl, hq⟩) | fail)
  all_goals
    go_wp2_with fail
    go_end0
    exact ⟨rfl, hq.out⟩

theorem as125_nil (w : World) : (Instr.typeAssert .nilIface 102 106 true).run Tryz.prog w = .ok (.tuple #[hgAgg0, .bool false]) w := by kernel_rfl

theorem mk125 (v : Value) (n : Int) (w : World) : (Instr.makeInterface 106 (.agg #[v, .int .u8 n])).run Tryz.prog w = .ok (.iface 106 (.agg #[v, .int .u8 n])) w := by kernel_rfl

theorem len210 (b c : Nat) (es : Array MapEntry) (w : World) (hb : w.heap[b]? = some (.map es c)) (ty : TypeId) : (Builtin.len_ #[170] ty #[.map (some b)]).run Tryz.prog w = .ok (.int .i64 (es.size : Int)) w := by
  simp [Builtin.len_, run_underlying Tryz.underlying170, MapKept.run_getObj_map hb, goInt]

theorem clear210 (b c : Nat) (es : Array MapEntry) (w : World) (hb : w.heap[b]? = some (.map es c)) (ty : TypeId) : (Builtin.clear_ #[170] ty #[.map (some b)]).run Tryz.prog w = .ok (.tuple #[]) (putObj w b (.map #[] c)) := by
  simp [Builtin.clear_, run_underlying Tryz.underlying170, MapKept.run_getObj_map hb, MapKept.run_setObj_map _ hb, Result.andThen, putObj]

theorem range210 (b c : Nat) (es : Array MapEntry) (w : World) (hb : w.heap[b]? = some (.map es c)) : (Instr.range 170 (.map (some b))).run Tryz.prog w = .ok (.pointer (some ⟨w.heap.size, 0, none⟩)) (w.alloc (.mapIter (some b) c #[] c)) := by
  exact run_range_map w 170 _ _ b es c Tryz.underlying170 hb

set_option maxRecDepth 100000 in
theorem delta60_nil (h b q top : Nat) (ms S : Int) (w : World)
    (hh : w.heap[h]? = some (.cells (hgCells ms S b (.int .i64 0)) 173 (0, 0))) (hm : MapAt w b top ms S [] []) (hq : w.cell? ⟨q, 0, none⟩ = some .nilIface) (hqf : w.frozen? ⟨q, 0, none⟩ = false) (hqb : q ≠ b) (_hqh : q ≠ h) (hhb : h ≠ b) :
    Calls Tryz.prog 54 #[.pointer (some ⟨h, 0, none⟩), .pointer (some ⟨q, 0, none⟩)] w fun e w' => e = .returned (.int .i64 0) ∧ MapAt w' b top ms S [] [] ∧ Kept [q, b] w w' ∧ w'.cell? ⟨q, 0, none⟩ = some (.iface 106 (.agg #[.slice none 0 0, .int .u8 2])) := by
  have ha := as125_nil
  have hk := mk125
  unfold hgAgg0 at ha
  have HH := Lib.hid hh
  have HM := Lib.hid hm
  have hql := cell_lt hq
  clear hh hm
  go_enter_defers Tryz.func54, Tryz.ntmps54
  go_wp2_with fail
  refine (now64 _).mono ?_; rintro e w1 ⟨rfl, hk1⟩
  have c1 : w1.cell? ⟨q, 0, none⟩ = some .nilIface := (hk1.cell hql (by simp)).trans hq
  have f1 : w1.frozen? ⟨q, 0, none⟩ = false := (hk1.frozen hql (by simp)).trans hqf
  have hl1 : q < w1.heap.size := cell_lt c1
  have hn1 : q ≠ w1.heap.size := by omega
  have K1 := Lib.hid hk1
  clear hk1 hq hqf
  obtain ⟨W2, hW2⟩ : ∃ W2, W2 = (w1.alloc (.cells #[.int .i64 0] 109)).alloc (.cells #[.slice none 0 0, .int .u8 2] 106) := ⟨_, rfl⟩
  have K2 := Lib.hid (show Kept [] w W2 by rw [hW2]; exact ((K1.out.alloc _).alloc _))
  have hh2 := K2.out.obj HH.out (by simp)
  have hpa := part212 W2 h _ _ hh2
  have c2 : W2.cell? ⟨q, 0, none⟩ = some .nilIface := by rw [hW2]; go_simp
  have f2 : W2.frozen? ⟨q, 0, none⟩ = false := by rw [hW2]; go_simp
  have t0 : W2.cell? ⟨w1.heap.size, 0, none⟩ = some (.int .i64 0) := by rw [hW2]; go_simp
  have a0 : W2.cell? ⟨w1.heap.size + 1, 0, none⟩ = some (.slice none 0 0) := by rw [hW2]; go_simp
  have a1 : W2.cell? ⟨w1.heap.size + 1, 1, none⟩ = some (.int .u8 2) := by rw [hW2]; go_simp
  have b0 : W2.frozen? ⟨w1.heap.size + 1, 0, none⟩ = false := by rw [hW2]; go_simp
  have c5 : W2.cell? ⟨h, 5, none⟩ = some (.map (some b)) := by unfold World.cell? hgCells at *; simp [hh2]
  have c6 : W2.cell? ⟨h, 6, none⟩ = some (.int .i64 0) := by unfold World.cell? hgCells at *; simp [hh2]
  have g6 : W2.frozen? ⟨h, 6, none⟩ = false := by unfold World.frozen? hgCells at *; simp [hh2]
  have hbx : w.heap.size ≤ w1.heap.size := by have := K1.out.size; omega
  have hbw : b < w.heap.size := by
    rcases HM.out with ⟨-, -, c', h⟩ | ⟨h, -⟩
    · exact heap_lt h
    · exact absurd rfl h
  obtain ⟨c, hb2⟩ : ∃ c, W2.heap[b]? = some (.map #[] c) := by
    rcases (HM.out.kept K2.out (by simp) (by simp)) with ⟨-, -, c, h⟩ | ⟨h, -⟩
    · exact ⟨c, h⟩
    · exact absurd rfl h
  obtain ⟨W3, hW3⟩ : ∃ W3, W3 = W2.alloc (.mapIter (some b) c #[] c) := ⟨_, rfl⟩
  have K3 := Lib.hid (show Kept [] W2 W3 by rw [hW3]; exact (Kept.refl _ _).alloc _)
  have hb3 := K3.out.obj hb2 (by simp)
  have hr3 : W3.heap[W2.heap.size]? = some (.mapIter (some b) c #[] c) := by rw [hW3]; exact alloc_new _ _
  have hlen := len210 b c #[] W2 hb2
  have hrng := range210 b c #[] W2 hb2
  rw [← hW3] at hrng
  have hnx := next210_none b W2.heap.size c c c #[] W3 hb3 hr3
  have hclr := clear210 b c #[] W3 hb3
  have hbl3 := heap_lt hb3
  have hl2 : q < W2.heap.size := cell_lt c2
  have hlt2 : w1.heap.size < W2.heap.size := cell_lt t0
  have hla2 : w1.heap.size + 1 < W2.heap.size := cell_lt a0
  have hlh2 : h < W2.heap.size := cell_lt c5
  have hbl2 := heap_lt hb2
  obtain ⟨W4, hW4⟩ : ∃ W4, W4 = putObj W3 b (.map #[] c) := ⟨_, rfl⟩
  have K4 := Lib.hid (show Kept [b] W2 W4 by rw [hW4]; exact putObj_kept (K3.out.sub (by simp)) (.inl (by simp)) _)
  rw [← hW4] at hclr
  have hb4 := Lib.hid (show W4.heap[b]? = some (.map #[] c) by rw [hW4]; exact putObj_at hbl3 _)
  have d2 : W4.cell? ⟨q, 0, none⟩ = some .nilIface := (K4.out.cell hl2 (by simp; exact hqb)).trans c2
  have e2 : W4.frozen? ⟨q, 0, none⟩ = false := (K4.out.frozen hl2 (by simp; exact hqb)).trans f2
  have dt : W4.cell? ⟨w1.heap.size, 0, none⟩ = some (.int .i64 0) := (K4.out.cell hlt2 (by simp; omega)).trans t0
  have da : W4.cell? ⟨w1.heap.size + 1, 0, none⟩ = some (.slice none 0 0) := (K4.out.cell hla2 (by simp; omega)).trans a0
  have db : W4.cell? ⟨w1.heap.size + 1, 1, none⟩ = some (.int .u8 2) := (K4.out.cell hla2 (by simp; omega)).trans a1
  have ea : W4.frozen? ⟨w1.heap.size + 1, 0, none⟩ = false := (K4.out.frozen hla2 (by simp; omega)).trans b0
  have d6 : W4.cell? ⟨h, 6, none⟩ = some (.int .i64 0) := (K4.out.cell hlh2 (by simp; exact hhb)).trans c6
  have e6 : W4.frozen? ⟨h, 6, none⟩ = false := (K4.out.frozen hlh2 (by simp; exact hhb)).trans g6
  have hset6 := setCell_id W4 _ _ d6
  have hseta := setCell_id W4 _ _ da
  have d5 : W3.cell? ⟨h, 5, none⟩ = some (.map (some b)) := (K3.out.cell hlh2 (by simp)).trans c5
  have hb2' := Lib.hid hb2
  clear hh2 hb2 hb3 hr3
  have hpb := hpa
  rw [hW2] at hpb
  go_wp2_with fail
  rw [← hW2]
  refine (lock68 _ _).mono ?_; rintro e w' ⟨rfl, rfl⟩
  clear hW2 c1 f1 hl1 hn1 hpb hW3 hW4
  go_wp2_with fail
  refine (reset97_nil _).mono ?_; rintro e w' ⟨rfl, rfl⟩
  go_wp2_with fail
  refine wp_loop_once ?_
  go_wp2_with fail
  refine leaves_cons (f := 69) (args := #[.pointer (some ⟨h, 6, none⟩)]) (by show ¬ (FrameMode.returning = FrameMode.run); intro h; cases h) (by simp [go_sem]) ?_
  refine (unlock69 _ .returning _).mono ?_
  rintro e u' w'' ⟨rfl, rfl, rfl⟩
  have hz : ∀ v, (W4.setCell ⟨q, 0, none⟩ v).cell? ⟨q, 0, none⟩ = some v := by intro v; go_simp
  refine ⟨_, results_tmp rfl _ _ _, rfl, .inl ⟨rfl, rfl, c, ?_⟩, ?_, hz _⟩
  · rw [Below.heap_setCell _ _ _ _ hqb.symm]; exact hb4.out
  · exact ((K2.out.sub (by simp)).trans (K4.out.sub (by simp))).setCell (.inl (by simp)) _

/-- what a part of the collection leaves: the point's cells so far -/
def Got (W : World) (g : Nat) (cs : Array Value) (w : World) : Prop := w.heap[g]? = some (.cells cs 116 (0, 0)) ∧ Kept [g] W w

theorem Got.set {W w : World} {g i : Nat} {cs cs' : Array Value} {v : Value} (h : Got W g cs w) (e : cs.setIfInBounds i v = cs') : Got W g cs' (w.setCell ⟨g, i, none⟩ v) :=
  ⟨blkSet' h.1 e, h.2.setCell (.inl (by simp)) _⟩

theorem Got.dr {W w w' : World} {g : Nat} {cs : Array Value} (h : Got W g cs w) (hd : Dr w w') : Got W g cs w' := by
  have := h.2.dr hd
  obtain ⟨k, rfl⟩ := hd
  exact ⟨h.1, this⟩

theorem Got.kept {W w w' : World} {g : Nat} {cs : Array Value} (h : Got W g cs w) (hk : Kept [] w w') (_hg : g < w.heap.size) : Got W g cs w' :=
  ⟨hk.obj h.1 (by simp), h.2.trans (hk.sub (by simp))⟩

theorem DpAt.other {w w' : World} {d g : Nat} {mm : Option (Nat × Nat)} {fb : Nat} {ni ms : Int} {s : Bk} {og oh : Option Nat} (h : DpAt w d mm fb ni ms s og oh) (hk : Kept [g] w w') (hd : d ≠ g) (h1 : og ≠ some g) (h2 : oh ≠ some g) (hmm : ∃ m, mm = some m) : DpAt w' d mm fb ni ms s og oh := by
  have bd : w'.heap[d]? = w.heap[d]? := hk.block d h.lt (by simpa using hd)
  have c : ∀ i, w'.cell? ⟨d, i, none⟩ = w.cell? ⟨d, i, none⟩ := fun i => World.cell?_of_block bd
  have fz : ∀ i, w'.frozen? ⟨d, i, none⟩ = w.frozen? ⟨d, i, none⟩ := fun i => World.frozen?_of_block bd
  have bg : ∀ x, og = some x → w'.heap[x]? = w.heap[x]? := fun x e => hk.block x (h.bk.P.lt e).1 (by simp; rintro rfl; exact h1 e)
  have bh : ∀ x, oh = some x → w'.heap[x]? = w.heap[x]? := fun x e => hk.block x (h.bk.N.lt e).1 (by simp; rintro rfl; exact h2 e)
  refine ⟨Nat.lt_of_lt_of_le h.lt hk.size, fun i => (fz i).trans (h.fz i), ?_, (c _).trans h.c5, (c _).trans h.c6, (c _).trans h.c7, (c _).trans h.c8, (c _).trans h.c9, h.fbl, ⟨(c _).trans h.bk.sc, h.bk.P.ofHeap bd bg, h.bk.N.ofHeap bd bh, (c _).trans h.bk.z, h.bk.ap⟩⟩
  obtain ⟨⟨mn, mx⟩, rfl⟩ := hmm
  obtain ⟨a0, a1, a2⟩ := h.mm
  exact ⟨(c _).trans a0, (c _).trans a1, (c _).trans a2⟩

theorem Got.alloc {W w : World} {g : Nat} {cs : Array Value} (h : Got W g cs w) (O : Obj) : Got W g cs (w.alloc O) :=
  ⟨by rw [Below.heap_alloc _ _ _ (heap_lt h.1)]; exact h.1, h.2.alloc O⟩

/-- what a sum reads as -/
def SumRd (_fb : Nat) (ni r : Int) : Prop := True ∧ r = ni

/-- a point's cells, as a collection lays them -/
def ptCells (q : Nat) (cnt : Nat) (mn mx : Nat) (r : Int) (s : Bk) (vp vn : Value) : Array Value := #[.int .u64 H0, .slice (some ⟨q, 0, none⟩) 0 0, .int .i64 0, .int .i64 0, U cnt, .int .i64 (sgn mn), .bool true, .int .i64 (sgn mx), .bool true, .int .i64 r, .int .i32 s.sc, U s.zc, .int .i32 s.ps, vp, .int .i32 s.ns, vn, .float .f64 0, .slice none 0 0]

set_option maxRecDepth 100000 in
theorem cum61_nil (h b q top : Nat) (ms S : Int) (w : World)
    (hh : w.heap[h]? = some (.cells (hgCells ms S b (.int .i64 0)) 173 (0, 0))) (hm : MapAt w b top ms S [] []) (hq : w.cell? ⟨q, 0, none⟩ = some .nilIface) (hqf : w.frozen? ⟨q, 0, none⟩ = false) (hqb : q ≠ b) (_hqh : q ≠ h) (_hhb : h ≠ b) :
    Calls Tryz.prog 55 #[.pointer (some ⟨h, 0, none⟩), .pointer (some ⟨q, 0, none⟩)] w fun e w' => e = .returned (.int .i64 0) ∧ MapAt w' b top ms S [] [] ∧ Kept [q] w w' ∧ w'.cell? ⟨q, 0, none⟩ = some (.iface 106 (.agg #[.slice none 0 0, .int .u8 1])) := by
  have ha := as125_nil
  have hk := mk125
  unfold hgAgg0 at ha
  have HH := Lib.hid hh
  have HM := Lib.hid hm
  have hql := cell_lt hq
  clear hh hm
  go_enter_defers Tryz.func55, Tryz.ntmps55
  go_wp2_with fail
  refine (now64 _).mono ?_; rintro e w1 ⟨rfl, hk1⟩
  have c1 : w1.cell? ⟨q, 0, none⟩ = some .nilIface := (hk1.cell hql (by simp)).trans hq
  have f1 : w1.frozen? ⟨q, 0, none⟩ = false := (hk1.frozen hql (by simp)).trans hqf
  have hl1 : q < w1.heap.size := cell_lt c1
  have hn1 : q ≠ w1.heap.size := by omega
  have K1 := Lib.hid hk1
  clear hk1 hq hqf
  obtain ⟨W2, hW2⟩ : ∃ W2, W2 = (w1.alloc (.cells #[.int .i64 0] 109)).alloc (.cells #[.slice none 0 0, .int .u8 1] 106) := ⟨_, rfl⟩
  have K2 := Lib.hid (show Kept [] w W2 by rw [hW2]; exact ((K1.out.alloc _).alloc _))
  have hh2 := K2.out.obj HH.out (by simp)
  have hpa := part212 W2 h _ _ hh2
  have c2 : W2.cell? ⟨q, 0, none⟩ = some .nilIface := by rw [hW2]; go_simp
  have f2 : W2.frozen? ⟨q, 0, none⟩ = false := by rw [hW2]; go_simp
  have t0 : W2.cell? ⟨w1.heap.size, 0, none⟩ = some (.int .i64 0) := by rw [hW2]; go_simp
  have a0 : W2.cell? ⟨w1.heap.size + 1, 0, none⟩ = some (.slice none 0 0) := by rw [hW2]; go_simp
  have a1 : W2.cell? ⟨w1.heap.size + 1, 1, none⟩ = some (.int .u8 1) := by rw [hW2]; go_simp
  have b0 : W2.frozen? ⟨w1.heap.size + 1, 0, none⟩ = false := by rw [hW2]; go_simp
  have c5 : W2.cell? ⟨h, 5, none⟩ = some (.map (some b)) := by unfold World.cell? hgCells at *; simp [hh2]
  have c6 : W2.cell? ⟨h, 6, none⟩ = some (.int .i64 0) := by unfold World.cell? hgCells at *; simp [hh2]
  have g6 : W2.frozen? ⟨h, 6, none⟩ = false := by unfold World.frozen? hgCells at *; simp [hh2]
  have hbx : w.heap.size ≤ w1.heap.size := by have := K1.out.size; omega
  have hbw : b < w.heap.size := by
    rcases HM.out with ⟨-, -, c', h⟩ | ⟨h, -⟩
    · exact heap_lt h
    · exact absurd rfl h
  obtain ⟨c, hb2⟩ : ∃ c, W2.heap[b]? = some (.map #[] c) := by
    rcases (HM.out.kept K2.out (by simp) (by simp)) with ⟨-, -, c, h⟩ | ⟨h, -⟩
    · exact ⟨c, h⟩
    · exact absurd rfl h
  obtain ⟨W3, hW3⟩ : ∃ W3, W3 = W2.alloc (.mapIter (some b) c #[] c) := ⟨_, rfl⟩
  have K3 := Lib.hid (show Kept [] W2 W3 by rw [hW3]; exact (Kept.refl _ _).alloc _)
  have hb3 := K3.out.obj hb2 (by simp)
  have hr3 : W3.heap[W2.heap.size]? = some (.mapIter (some b) c #[] c) := by rw [hW3]; exact alloc_new _ _
  have hlen := len210 b c #[] W2 hb2
  have hrng := range210 b c #[] W2 hb2
  rw [← hW3] at hrng
  have hnx := next210_none b W2.heap.size c c c #[] W3 hb3 hr3
  have hbl3 := heap_lt hb3
  have hl2 : q < W2.heap.size := cell_lt c2
  have hlt2 : w1.heap.size < W2.heap.size := cell_lt t0
  have hla2 : w1.heap.size + 1 < W2.heap.size := cell_lt a0
  have hlh2 : h < W2.heap.size := cell_lt c5
  have hbl2 := heap_lt hb2
  have d2 : W3.cell? ⟨q, 0, none⟩ = some .nilIface := (K3.out.cell hl2 (by simp)).trans c2
  have e2 : W3.frozen? ⟨q, 0, none⟩ = false := (K3.out.frozen hl2 (by simp)).trans f2
  have da : W3.cell? ⟨w1.heap.size + 1, 0, none⟩ = some (.slice none 0 0) := (K3.out.cell hla2 (by simp)).trans a0
  have db : W3.cell? ⟨w1.heap.size + 1, 1, none⟩ = some (.int .u8 1) := (K3.out.cell hla2 (by simp)).trans a1
  have ea : W3.frozen? ⟨w1.heap.size + 1, 0, none⟩ = false := (K3.out.frozen hla2 (by simp)).trans b0
  have hseta := setCell_id W3 _ _ da
  have hb3' := Lib.hid hb3
  have d5 : W3.cell? ⟨h, 5, none⟩ = some (.map (some b)) := (K3.out.cell hlh2 (by simp)).trans c5
  have hb2' := Lib.hid hb2
  clear hh2 hb2 hb3 hr3
  have hpb := hpa
  rw [hW2] at hpb
  go_wp2_with fail
  rw [← hW2]
  refine (lock68 _ _).mono ?_; rintro e w' ⟨rfl, rfl⟩
  clear hW2 c1 f1 hl1 hn1 hpb hW3
  go_wp2_with fail
  refine (reset97_nil _).mono ?_; rintro e w' ⟨rfl, rfl⟩
  go_wp2_with fail
  refine wp_loop_once ?_
  go_wp2_with fail
  refine leaves_cons (f := 69) (args := #[.pointer (some ⟨h, 6, none⟩)]) (by show ¬ (FrameMode.returning = FrameMode.run); intro h; cases h) (by simp [go_sem]) ?_
  refine (unlock69 _ .returning _).mono ?_
  rintro e u' w'' ⟨rfl, rfl, rfl⟩
  have hz : ∀ v, (W3.setCell ⟨q, 0, none⟩ v).cell? ⟨q, 0, none⟩ = some v := by intro v; go_simp
  refine ⟨_, results_tmp rfl _ _ _, rfl, .inl ⟨rfl, rfl, c, ?_⟩, ?_, hz _⟩
  · rw [Below.heap_setCell _ _ _ _ hqb.symm]; exact hb3'.out
  · exact ((K2.out.sub (by simp)).trans (K3.out.sub (by simp))).setCell (.inl (by simp)) _

end Go.Proofs.YtlpddogcnpokfaaGreat.I
