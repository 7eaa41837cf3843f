/- The reference: the buckets of a side (expoSide.buckets). -/
import Derived.Test.YtlpddogcnpokfaaGreatSp3
import Derived.Test.YtlpddogcnpokfaaGreatPl1
namespace Go.Proofs.YtlpddogcnpokfaaGreat
open Go.RowKit Go.Maps

theorem SlAt_num {w : World} {g : Nat} {l : List Nat} (h : w.heap[g]? = some (numObj l)) (hl : l.length ≤ maxLen) : SlAt w (.slice (some ⟨g, 0, none⟩) l.length l.length) (l.map U) := by
  refine .inr ⟨⟨g, 0, none⟩, l.length, by rw [List.length_map], heap_lt h, by simp, hl, fun i u hi => ?_⟩
  have : (⟨g, 0, none⟩ : Addr).add i = ⟨g, i, none⟩ := by simp [Addr.add]; omega
  rw [this]
  refine cellOf h ?_
  rw [List.getElem?_toArray]
  exact hi
theorem Sd_range {k : Nat} {L : List Int} {lo hi : Int} {N : Nat} (hlo : lo ∈ L) (hhi : hi ∈ L) (hall : ∀ x, x ∈ L → lo ≤ x ∧ x ≤ hi) (hN : (N : Int) = hi / 2 ^ k - lo / 2 ^ k + 1) : Sd k L (lo / 2 ^ k) ((List.range N).map fun (j : Nat) => cntB L k (lo / 2 ^ k + j)) := by
  have p : (0 : Int) < 2 ^ k := Int.pow_pos (by omega)
  have e : ((2 ^ k : Nat) : Int) = 2 ^ k := by rw [Int.natCast_pow]; rfl
  have h0 := Int.ediv_le_ediv p (hall hi hhi).1
  have hne : L ≠ [] := List.ne_nil_of_mem hlo
  refine ⟨fun h => absurd h hne, fun _ h => ?_, fun j hj => ?_, fun _ => cntB_pos.2 ⟨lo, hlo, by rw [e]⟩, fun _ => cntB_pos.2 ⟨hi, hhi, ?_⟩, fun x hx => ?_⟩
  · have := congrArg List.length h; simp at this; omega
  · simp at hj; simp [hj]
  · rw [e]; simp; omega
  · have a := Int.ediv_le_ediv p (hall x hx).1
    have b := Int.ediv_le_ediv p (hall x hx).2
    rw [e]; simp; omega
theorem grownBy_set (w : World) (g j : Nat) (v : Value) : w.grownBy ((w.setCell ⟨g, j, none⟩ v).drew) (some g) := by
  have hk := ((Kept.refl [g] w).setCell (p := ⟨g, j, none⟩) (.inl (by simp)) v).dr (c := (w.setCell ⟨g, j, none⟩ v).drew) ⟨1, rfl⟩
  exact ⟨hk.os, hk.tape, hk.output, hk.size, fun i hi hne => hk.block i hi (by intro e; simp at e; exact hne (by rw [e]))⟩
/-- what the buckets of a side are -/
def BktPost (w : World) (b : Nat) (L : List Int) (e : Ending) (w' : World) : Prop :=
  ∃ V st l, e = .returned (.tuple #[.int .i32 st, V]) ∧ SlAt w' V (l.map U) ∧ Sd b L st l ∧ Kept [] w w' ∧ ∀ a n c, V = .slice (some a) n c → w.heap.size ≤ a.block ∧ ∃ cur, w'.heap[a.block]? = some (.cells cur 23 (0, 0))

/-- what has been counted of a list while some keys are still to come -/
def bkL (L : List Int) (left : Lit → Bool) (k : Nat) (st : Int) (N : Nat) : List Nat := (List.range N).map fun (j : Nat) => cntB (L.filter fun x => !left (.int .i64 x)) k (st + j)
theorem bkL_len (L : List Int) (left : Lit → Bool) (k : Nat) (st : Int) (N : Nat) : (bkL L left k st N).length = N := by simp [bkL]
theorem bkL_get (L : List Int) (left : Lit → Bool) (k : Nat) (st : Int) (N j : Nat) (hj : j < N) : (bkL L left k st N)[j]? = some (cntB (L.filter fun x => !left (.int .i64 x)) k (st + j)) := by
  simp [bkL, hj]
theorem bkL_start {L : List Int} {left : Lit → Bool} (h : ∀ x, x ∈ L → left (.int .i64 x) = true) (k : Nat) (st : Int) (N : Nat) : bkL L left k st N = List.replicate N 0 := by
  have e : (L.filter fun x => !left (.int .i64 x)) = [] := by
    rw [List.filter_eq_nil_iff]; intro x hx; simp [h x hx]
  unfold bkL
  rw [e]
  apply List.ext_getElem (by simp)
  intro i h1 h2
  simp [cntB]
theorem bkL_end {L : List Int} {left : Lit → Bool} (h : ∀ kl, left kl = false) (k : Nat) (st : Int) (N : Nat) : bkL L left k st N = (List.range N).map fun (j : Nat) => cntB L k (st + j) := by
  have e : (L.filter fun x => !left (.int .i64 x)) = L := by
    rw [List.filter_eq_self]; intro x _; simp [h]
  unfold bkL
  rw [e]
theorem sameK (y x : Int) : (Lit.int .i64 y).sameKey (.int .i64 x) = decide (y = x) := by
  by_cases h : y = x
  · subst h; rw [WideAt.sameKey_self (a := .int .i64 y) trivial]; simp
  · rw [decide_eq_false h]
    cases hs : (Lit.int .i64 y).sameKey (.int .i64 x)
    · rfl
    · have := WideAt.sameKey_eq hs; injection this with _ e; exact absurd e h
theorem cnt_left {left : Lit → Bool} {x : Int} (hx : left (.int .i64 x) = true) (k : Nat) (i : Int) : ∀ L : List Int, cntB (L.filter fun y => !(left (.int .i64 y) && !(Lit.int .i64 y).sameKey (.int .i64 x))) k i =
    cntB (L.filter fun y => !left (.int .i64 y)) k i + if x / ((2 ^ k : Nat) : Int) = i then L.count x else 0
  | [] => by simp [cntB]
  | y :: L => by
    have ih := cnt_left hx k i L
    by_cases hyx : y = x
    · subst hyx
      have p1 : (!(left (.int .i64 y) && !(Lit.int .i64 y).sameKey (.int .i64 y))) = true := by rw [sameK]; simp
      have p2 : (!left (.int .i64 y)) = false := by rw [hx]; rfl
      rw [List.filter_cons_of_pos (by exact p1), List.filter_cons_of_neg (by rw [p2]; simp), cntB_cons, ih, List.count_cons_self]
      split <;> omega
    · have p1 : (!(left (.int .i64 y) && !(Lit.int .i64 y).sameKey (.int .i64 x))) = !left (.int .i64 y) := by rw [sameK]; simp [hyx]
      rw [List.count_cons_of_ne hyx]
      cases hl : left (.int .i64 y)
      · rw [List.filter_cons_of_pos (by rw [p1, hl]; rfl), List.filter_cons_of_pos (by rw [hl]; rfl), cntB_cons, cntB_cons, ih]
        omega
      · rw [List.filter_cons_of_neg (by rw [p1, hl]; simp), List.filter_cons_of_neg (by rw [hl]; simp), ih]
theorem bkL_step {L : List Int} {left : Lit → Bool} {x : Int} (hx : left (.int .i64 x) = true) (k : Nat) (st : Int) (N j : Nat) (hj : x / ((2 ^ k : Nat) : Int) - st = j) :
    bkL L (fun z => left z && !z.sameKey (.int .i64 x)) k st N = (bkL L left k st N).set j (cntB (L.filter fun y => !left (.int .i64 y)) k (st + j) + L.count x) := by
  apply List.ext_getElem (by simp [bkL])
  intro i h1 h2
  simp only [bkL, List.getElem_map, List.getElem_range, List.getElem_set]
  rw [cnt_left hx]
  by_cases h : j = i
  · subst h
    rw [if_pos (by omega), if_pos rfl]
  · rw [if_neg (by omega), if_neg h]
    rfl

set_option maxHeartbeats 1000000 in
set_option maxRecDepth 100000 in
theorem bkt37_nil (b : Nat) (by_ : Int) (w : World) (hb : w.heap[b]? = some (.cells #[.int .i64 0, .int .i64 0, .map none] 66 (0, 0))) :
    Calls Tryz.prog 37 #[.pointer (some ⟨b, 0, none⟩), .int .i64 by_] w (BktPost w by_.toNat []) := by
  have c2 : w.cell? ⟨b, 2, none⟩ = some (.map none) := cellOf hb rfl
  clear hb
  go_enter Tryz.func37, Tryz.ntmps37
  go_wp2_with fail
  go_ret2
  exact ⟨.slice none 0 0, 0, [], rfl, .inl ⟨rfl, rfl⟩, Sd.empty _, Kept.refl _ _, fun a n c h => by cases h⟩
set_option maxHeartbeats 1000000 in
set_option maxRecDepth 100000 in
theorem bkt37_more (b m : Nat) (lo hi by_ : Int) (n N : Nat) (L : List Int) (D : DataW Unit) (w : World) (hb : w.heap[b]? = some (.cells #[.int .i64 lo, .int .i64 hi, .map (some m)] 66 (0, 0))) (hmb : m ≠ b) (hown : w.ownsMap Tryz.prog 2 (plainElem Tryz.prog 23) m n D) (hc : CntMap L D) (hlo : lo ∈ L) (hhi : hi ∈ L) (hall : ∀ x, x ∈ L → lo ≤ x ∧ x ≤ hi)
    (h1 : -2147483648 ≤ lo) (h2 : lo ≤ hi) (h3 : hi ≤ 2147483647) (hy : 0 ≤ by_) (hy2 : by_ ≤ 60) (hN : (N : Int) = hi / 2 ^ by_.toNat - lo / 2 ^ by_.toNat + 1) (hN2 : N ≤ 1000) (hLl : L.length ≤ 1000) :
    Calls Tryz.prog 37 #[.pointer (some ⟨b, 0, none⟩), .int .i64 by_] w (BktPost w by_.toNat L) := by
  have c0 : w.cell? ⟨b, 0, none⟩ = some (.int .i64 lo) := cellOf hb rfl
  have c1 : w.cell? ⟨b, 1, none⟩ = some (.int .i64 hi) := cellOf hb rfl
  have c2 : w.cell? ⟨b, 2, none⟩ = some (.map (some m)) := cellOf hb rfl
  have hz : ((Maps.size D : Int) == 0) = false := by have := hc.size_pos hlo; rw [beq_eq_false_iff_ne]; omega
  have hwr : wrap64 (hi / 2 ^ by_.toNat - lo / 2 ^ by_.toNat) = hi / 2 ^ by_.toNat - lo / 2 ^ by_.toNat := IntWalk.wrap64_in _ (by omega)
  have hwr2 : wrap64 (hi / 2 ^ by_.toNat - lo / 2 ^ by_.toNat + 1) = hi / 2 ^ by_.toNat - lo / 2 ^ by_.toNat + 1 := IntWalk.wrap64_in _ (by omega)
  have hw3 : wrap32 (lo / 2 ^ by_.toNat) = lo / 2 ^ by_.toNat := by
    have a1 := div_near lo (k := by_.toNat)
    unfold wrap32; omega
  have hmk : ∀ w, (Instr.makeSlice 24 (.int .i64 (hi / 2 ^ by_.toNat - lo / 2 ^ by_.toNat + 1)) (.int .i64 (hi / 2 ^ by_.toNat - lo / 2 ^ by_.toNat + 1))).run Tryz.prog w = .ok (.slice (some ⟨w.heap.size, 0, none⟩) N N) (w.alloc (numObj (List.replicate N 0))) := by
    intro w
    rw [← hN]; exact run_make24 N hN2 w
  have HO := Lib.hid (And.intro hb (And.intro hmb (And.intro hown (And.intro hc (And.intro hlo (And.intro hhi (And.intro hall (And.intro hLl hN2))))))))
  clear hb hmb hown hc hlo hhi hall hLl
  go_enter Tryz.func37, Tryz.ntmps37
  go_wp2_with (at_len; refine wpList_len_own _ rfl _ 64 rfl 2 23 Tryz.underlying64 (plainElem Tryz.prog 23) m n D rfl HO.out.2.2.1 ?_)
  go_region
  rename_i K hK
  refine hK _ _ ?_
  clear hK
  have hg1 : ((w.alloc (numObj (List.replicate N 0))).drew).heap[w.heap.size]? = some (numObj (List.replicate N 0)) := (MapKept.heap_alloc w _).1
  have hb1 : ((w.alloc (numObj (List.replicate N 0))).drew).heap[b]? = some (.cells #[.int .i64 lo, .int .i64 hi, .map (some m)] 66 (0, 0)) := (Below.heap_alloc _ _ _ (heap_lt HO.out.1)).trans HO.out.1
  have hown1 : ((w.alloc (numObj (List.replicate N 0))).drew).ownsMap Tryz.prog 2 (plainElem Tryz.prog 23) m n D := (HO.out.2.2.1.alloc _).drew
  have hk1 : Kept [] w ((w.alloc (numObj (List.replicate N 0))).drew) := ((Kept.refl [] w).alloc _).dr ⟨1, rfl⟩
  have hgl : w.heap.size < ((w.alloc (numObj (List.replicate N 0))).drew).heap.size := heap_lt hg1
  have hbl : b < w.heap.size := heap_lt HO.out.1
  have hml : m < w.heap.size := HO.out.2.2.1.lt
  obtain ⟨g, hg⟩ : ∃ g, g = w.heap.size := ⟨_, rfl⟩
  rw [← hg] at hg1 hgl hbl hml
  simp only [← hg]
  generalize ((w.alloc (numObj (List.replicate N 0))).drew) = W1 at hg1 hb1 hown1 hk1 hgl ⊢
  have d2 : W1.cell? ⟨b, 2, none⟩ = some (.map (some m)) := cellOf hb1 rfl
  have HG := Lib.hid hg
  have HB1 := Lib.hid (And.intro hg1 (And.intro hk1 (And.intro hgl (And.intro hbl (And.intro hml hb1)))))
  clear hg hg1 hk1 hb1 hgl hbl hml
  go_wp2_with (at_range; refine wpList_range_own _ rfl _ 64 rfl 2 23 law2 Tryz.underlying64 _ m n _ rfl hown1 ?_; intro w0 hrg0 hg0 hs0)
  go_frame
  obtain ⟨r, hr⟩ : ∃ r, r = W1.heap.size := ⟨_, rfl⟩
  rw [← hr] at hrg0 hs0
  simp only [← hr]
  have HR := Lib.hid hr
  clear hr
  go_loopw [7, 8] (fun _ _ wr => ∃ (left : Lit → Bool) (cnt : Nat), wr.ranges Tryz.prog 2 (plainElem Tryz.prog 23) m r n D left cnt ∧ wr.heap[g]? = some (numObj (bkL L left by_.toNat (lo / 2 ^ by_.toNat) N)) ∧ Kept [] w wr)
    (fun _ _ wr => wr.rangeLeft m r)
  case atStart =>
    refine ⟨_, _, hrg0, ?_, HB1.out.2.1.trans2 (grownBy_kept hg0) (by simp)⟩
    rw [bkL_start]
    · exact (hg0.block g HB1.out.2.2.1 (by simp)).trans HB1.out.1
    · intro x hx; rw [HO.out.2.2.2.1.2.2]; exact decide_eq_true hx
  case round =>
    obtain ⟨left, cnt, hrg, hgw, hkw⟩ := hrel
    have hb3 : wr.heap[b]? = some (.cells #[.int .i64 lo, .int .i64 hi, .map (some m)] 66 (0, 0)) := hkw.obj HO.out.1 (by simp)
    have e0 : wr.cell? ⟨b, 0, none⟩ = some (.int .i64 lo) := cellOf hb3 rfl
    have HW := Lib.hid (And.intro hgw (And.intro hkw hb3))
    clear hgw hkw hb3
    go_wp2_with (at_next; refine wpList_next_ranges_ii _ rfl _ rfl 2 23 .i64 .u64 law2 Tryz.underlying2 Tryz.underlying23 m r n _ _ _ rfl hrg ?_ ?_)
    · intro _ hl0
      go_wp2_with fail
      rw [hw3]
      go_ret2
      have hend := HW.out.1
      rw [bkL_end hl0] at hend
      refine ⟨.slice (some ⟨g, 0, none⟩) N N, lo / 2 ^ by_.toNat, _, rfl, ?_, Sd_range HO.out.2.2.2.2.1 HO.out.2.2.2.2.2.1 HO.out.2.2.2.2.2.2.1 hN, HW.out.2.1, fun a n c h => by injection h with h; injection h with h; rw [← h]; exact ⟨Nat.le_of_eq HG.out.symm, _, hend⟩⟩
      have := SlAt_num hend (by simp [maxLen]; omega)
      simpa using this
    · intro x c w1 cnt1 hwx hwc hlx hat hrg1 hlt hg1 hs1 hen
      have hxL : x ∈ L := by
        have := has_true_of_atKey hat
        rw [HO.out.2.2.2.1.2.2] at this
        exact of_decide_eq_true this
      have hcc : c = (L.count x : Int) := litU_inj ((hat _).symm.trans (HO.out.2.2.2.1.2.1 x))
      subst hcc
      have hxb := HO.out.2.2.2.2.2.2.1 x hxL
      have p : (0 : Int) < 2 ^ by_.toNat := Int.pow_pos (by omega)
      have q1 := Int.ediv_le_ediv p hxb.1
      have q2 := Int.ediv_le_ediv p hxb.2
      obtain ⟨j, hj⟩ : ∃ j : Nat, (j : Int) = x / 2 ^ by_.toNat - lo / 2 ^ by_.toNat := ⟨(x / 2 ^ by_.toNat - lo / 2 ^ by_.toNat).toNat, by omega⟩
      have hjN : j < N := by omega
      have hwj : wrap64 (x / 2 ^ by_.toNat - lo / 2 ^ by_.toNat) = (j : Int) := (IntWalk.wrap64_in _ (by omega)).trans hj.symm
      have hj1 : (j : Int) < (N : Int) := by omega
      have hj0 : (0 : Int) ≤ (j : Int) := by omega
      have hg2 : w1.heap[g]? = some (numObj (bkL L left by_.toNat (lo / 2 ^ by_.toNat) N)) := (hg1.block g (heap_lt HW.out.1) (by intro e; injection e with e; have := HR.out; have := HB1.out.2.2.1; omega)).trans HW.out.1
      have hb4 : w1.heap[b]? = some (.cells #[.int .i64 lo, .int .i64 hi, .map (some m)] 66 (0, 0)) := (hg1.block b (heap_lt HW.out.2.2) (by intro e; injection e with e; have := HR.out; have := HB1.out.2.2.1; have := HB1.out.2.2.2.1; omega)).trans HW.out.2.2
      have e0' : w1.cell? ⟨b, 0, none⟩ = some (.int .i64 lo) := cellOf hb4 rfl
      obtain ⟨o, ho⟩ : ∃ o, o = cntB (L.filter fun y => !left (.int .i64 y)) by_.toNat (lo / 2 ^ by_.toNat + j) := ⟨_, rfl⟩
      have ec : w1.cell? ⟨g, j, none⟩ = some (.int .u64 (o : Int)) := by
        refine (numObj_cell hg2 (by rw [bkL_len]; exact hjN)).trans ?_
        rw [List.getD_eq_getElem?_getD, bkL_get _ _ _ _ _ _ hjN, ho]; rfl
      have ef : w1.frozen? ⟨g, j, none⟩ = false := frOf hg2
      have hoL : o ≤ 1000 := by rw [ho]; exact Nat.le_trans List.countP_le_length (Nat.le_trans (List.length_filter_le _ _) HO.out.2.2.2.2.2.2.2.1)
      have hcL : L.count x ≤ 1000 := Nat.le_trans List.count_le_length HO.out.2.2.2.2.2.2.2.1
      have hsum : IntKind.u64.wrap ((o : Int) + (L.count x : Int)) = (o : Int) + (L.count x : Int) := by rw [IntKind.wrap_u64]; omega
      have HX := Lib.hid (And.intro hlx (And.intro hrg1 (And.intro hlt (And.intro hg1 (And.intro hg2 (And.intro ho hj))))))
      clear hlx hg1 hg2 ho hj hxb q1 q2 p hat hwx hwc hrg1
      go_wp2_with fail
      go_region
      go_roundw
      case rel =>
        refine ⟨_, _, _, _, _, _, _, _, _, _, _, _, _, _, _, _, _, _, _, _, _, _, _, ⟨(fun z => left z && !z.sameKey (.int .i64 x)), cnt1, ?_, ?_, ?_⟩, rfl⟩
        · exact HX.out.2.1.kept (row := some g) (grownBy_set _ _ _ _) (by intro e; injection e with e; have := HB1.out.2.2.2.2.1; omega) (by intro e; injection e with e; have := HR.out; have := HB1.out.2.2.1; omega)
        · have hj2 : x / ((2 ^ by_.toNat : Nat) : Int) - lo / 2 ^ by_.toNat = j := by rw [Int.natCast_pow]; exact HX.out.2.2.2.2.2.2.symm
          rw [bkL_step HX.out.1 _ _ _ _ hj2, ← HX.out.2.2.2.2.2.1]
          exact numObj_set HX.out.2.2.2.2.1
        · exact (HW.out.2.1.trans2 (grownBy_kept HX.out.2.2.2.1) (by intro z hz; simp at hz; subst hz; right; have := HR.out; have := HB1.out.2.2.1; have := HG.out; omega)).trans2 (grownBy_kept (grownBy_set w1 g j _)) (by intro z hz; simp at hz; subst hz; right; have := HG.out; omega)
      case measure =>
        have k1 := HX.out.2.1.kept (row := some g) (grownBy_set w1 g j (.int .u64 ((o : Int) + (L.count x : Int)))) (by intro e; injection e with e; have := HB1.out.2.2.2.2.1; omega) (by intro e; injection e with e; have := HR.out; have := HB1.out.2.2.1; omega)
        rw [k1.left_eq, hrg.left_eq]; exact HX.out.2.2.1
/-- the buckets of a side -/
theorem bkt37 (b : Nat) (L : List Int) (om : Option Nat) (by_ : Int) (w : World) (hs : SideS w b L om) (hL : ∀ x, x ∈ L → -2147483648 ≤ x ∧ x ≤ 2147483647) (hLl : L.length ≤ 1000) (hy : 0 ≤ by_) (hy2 : by_ ≤ 60) (hf : FitB 200 by_.toNat L) :
    Calls Tryz.prog 37 #[.pointer (some ⟨b, 0, none⟩), .int .i64 by_] w (BktPost w by_.toNat L) := by
  rcases hs with ⟨rfl, rfl, hb⟩ | ⟨hne, m, lo, hi, n, D, rfl, hb, hmb, hown, hn, hc, hlo, hhi, hall⟩
  · exact bkt37_nil b by_ w hb
  · have p : (0 : Int) < 2 ^ by_.toNat := Int.pow_pos (by omega)
    have h0 := Int.ediv_le_ediv p (hall hi hhi).1
    have h1 := hf hi hhi lo hlo
    rw [Int.natCast_pow] at h1
    have h1 : hi / (2 : Int) ^ by_.toNat - lo / (2 : Int) ^ by_.toNat < 200 := h1
    exact bkt37_more b m lo hi by_ n (hi / 2 ^ by_.toNat - lo / 2 ^ by_.toNat + 1).toNat L D w hb hmb hown hc hlo hhi hall (hL lo hlo).1 (hall lo hlo).2 (hL hi hhi).2 hy hy2 (by omega) (by omega) hLl
end Go.Proofs.YtlpddogcnpokfaaGreat
