/- The reference: one measurement is added to a side (expoSide.add). -/
import Derived.Test.YtlpddogcnpokfaaGreatSp1
import Derived.Maps.OwnSet
import Derived.Maps.OwnOps
import Derived.Maps.RangeWalk
import Derived.Deep.RegionWith
import Derived.Test.YtlpddogcnpokfaaGreatEx1
namespace Go.Proofs.YtlpddogcnpokfaaGreat
open Go.RowKit Go.Maps

/-- a map that counts the numbers of a list -/
def CntMap (L : List Int) (D : DataW Unit) : Prop :=
  IsMap D ∧ (∀ i : Int, D.atKey (.int .i64 i) (.lit (.int .u64 0)) = .lit (.int .u64 ((L.count i : Nat) : Int))) ∧ ∀ i : Int, Maps.has D (.int .i64 i) = decide (i ∈ L)
theorem CntMap.empty : CntMap [] (.map []) := ⟨isMap_empty, fun _i => rfl, fun _i => rfl⟩
theorem CntMap.put {L : List Int} {D : DataW Unit} (h : CntMap L D) (i : Int) : CntMap (i :: L) (D.put (.int .i64 i) (.lit (.int .u64 ((L.count i + 1 : Nat) : Int)))) := by
  have hk : WideAt.IsKeyLit (.int .i64 i) := trivial
  refine ⟨h.1.put _ _, fun j => ?_, fun j => ?_⟩
  · by_cases e : j = i
    · subst e; rw [atKey_put_same h.1 hk, List.count_cons_self]
    · have hne : (Lit.int .i64 j) ≠ .int .i64 i := fun he => by injection he with _ he; exact e he
      rw [atKey_put_other hne, h.2.1 j, List.count_cons_of_ne (fun he => e he.symm)]
  · by_cases e : j = i
    · subst e; rw [has_put_same h.1 hk]; simp
    · have hne : (Lit.int .i64 j) ≠ .int .i64 i := fun he => by injection he with _ he; exact e he
      rw [has_put_other hne, h.2.2 j]; simp [e]

theorem CntMap.size_pos {L : List Int} {D : DataW Unit} (h : CntMap L D) {i : Int} (hi : i ∈ L) : 0 < Maps.size D := by
  have h3 := h.2.2 i
  rw [decide_eq_true hi] at h3
  obtain ⟨es, rfl⟩ := h.1
  cases es with
  | nil => cases h3
  | cons e es => simp [Maps.size]
theorem litU_inj {a b : Int} (h : (DataW.lit (Lit.int .u64 a) : DataW Unit) = .lit (.int .u64 b)) : a = b := by
  injection h with e; injection e
theorem law2 : Keyed Tryz.prog 2 := int_keyed Tryz.underlying2
theorem zero23 (w : World) : (zeroValue 23).run Tryz.prog w = .ok (.int .u64 0) w := by kernel_rfl

/-- a side of the reference, in memory -/
def SideS (w : World) (b : Nat) (L : List Int) (om : Option Nat) : Prop :=
  (L = [] ∧ om = none ∧ w.heap[b]? = some (.cells #[.int .i64 0, .int .i64 0, .map none] 66 (0, 0))) ∨
  (L ≠ [] ∧ ∃ m lo hi n D, om = some m ∧ w.heap[b]? = some (.cells #[.int .i64 lo, .int .i64 hi, .map (some m)] 66 (0, 0)) ∧ m ≠ b ∧ w.ownsMap Tryz.prog 2 (plainElem Tryz.prog 23) m n D ∧ n ≤ L.length ∧ CntMap L D ∧ lo ∈ L ∧ hi ∈ L ∧ ∀ x, x ∈ L → lo ≤ x ∧ x ≤ hi)
def AddPost (w : World) (b : Nat) (L : List Int) (om : Option Nat) (i : Int) (e : Ending) (w' : World) : Prop :=
  e = .returned (.tuple #[]) ∧ ∃ om', SideS w' b (i :: L) om' ∧ Kept (b :: om.toList) w w' ∧ ∀ m', om' = some m' → om = some m' ∨ w.heap.size ≤ m'
theorem key2 (i : Int) (h1 : -4611686018427387904 ≤ i) (h2 : i ≤ 4611686018427387904) : keyOf Tryz.prog 2 (.int .i64 i) = some (.int .i64 i) := keyOf_int_mk Tryz.underlying2 (WalkArith.wf_i64 (by omega))

set_option maxHeartbeats 1000000 in
set_option maxRecDepth 100000 in
theorem add35_more (b m : Nat) (lo hi i : Int) (n c : Nat) (L : List Int) (D : DataW Unit) (w : World) (hb : w.heap[b]? = some (.cells #[.int .i64 lo, .int .i64 hi, .map (some m)] 66 (0, 0))) (hmb : m ≠ b) (hown : w.ownsMap Tryz.prog 2 (plainElem Tryz.prog 23) m n D) (hn : n ≤ L.length) (hc : CntMap L D) (hs : 0 < Maps.size D)
    (hlo : lo ∈ L) (hhi : hi ∈ L) (hall : ∀ x, x ∈ L → lo ≤ x ∧ x ≤ hi) (hL : L.length ≤ 1000) (h1 : -4611686018427387904 ≤ i) (h2 : i ≤ 4611686018427387904) (hcc : c = L.count i) :
    Calls Tryz.prog 35 #[.pointer (some ⟨b, 0, none⟩), .int .i64 i] w (AddPost w b L (some m) i) := by
  have HB := Lib.hid hb
  have c0 : w.cell? ⟨b, 0, none⟩ = some (.int .i64 lo) := cellOf hb rfl
  have c1 : w.cell? ⟨b, 1, none⟩ = some (.int .i64 hi) := cellOf hb rfl
  have c2 : w.cell? ⟨b, 2, none⟩ = some (.map (some m)) := cellOf hb rfl
  have f0 : w.frozen? ⟨b, 0, none⟩ = false := frOf hb
  have f1 : w.frozen? ⟨b, 1, none⟩ = false := frOf hb
  have HO := Lib.hid (And.intro hown (And.intro hn (And.intro hc (And.intro hlo (And.intro hhi (And.intro hall hcc))))))
  have hz : ((Maps.size D : Int) == 0) = false := by rw [beq_eq_false_iff_ne]; omega
  clear hb hown hn hc hlo hhi hall hs hcc
  go_enter Tryz.func35, Tryz.ntmps35
  go_wp2_with (at_len; refine wpList_len_own _ rfl _ 64 rfl 2 23 Tryz.underlying64 (plainElem Tryz.prog 23) m n D rfl HO.out.1 ?_)
  go_region
  rename_i K hK
  refine hK _ _ ?_
  clear hK
  generalize hlo' : (if i < lo then i else lo) = lo'
  generalize hhi' : (if hi < i then i else hi) = hi'
  have hb1 : (((w.setCell { block := b, off := 0 } (.int .i64 lo')).setCell { block := b, off := 1 } (.int .i64 hi')).drew).heap[b]? = some (.cells #[.int .i64 lo', .int .i64 hi', .map (some m)] 66 (0, 0)) := by
    exact blkSet' (blkSet' HB.out rfl) rfl
  have hown1 : (((w.setCell { block := b, off := 0 } (.int .i64 lo')).setCell { block := b, off := 1 } (.int .i64 hi')).drew).ownsMap Tryz.prog 2 (plainElem Tryz.prog 23) m n D := ((HO.out.1.setCell (a := ⟨b, 0, none⟩) hmb _).setCell (a := ⟨b, 1, none⟩) hmb _).drew
  have hk1 : Kept [b] w (((w.setCell { block := b, off := 0 } (.int .i64 lo')).setCell { block := b, off := 1 } (.int .i64 hi')).drew) := (((Kept.refl [b] w).setCell (p := ⟨b, 0, none⟩) (.inl (by simp)) _).setCell (p := ⟨b, 1, none⟩) (.inl (by simp)) _).dr ⟨1, rfl⟩
  generalize (((w.setCell { block := b, off := 0 } (.int .i64 lo')).setCell { block := b, off := 1 } (.int .i64 hi')).drew) = W1 at hb1 hown1 hk1 ⊢
  have d2 : W1.cell? ⟨b, 2, none⟩ = some (.map (some m)) := cellOf hb1 rfl
  have hkey := key2 i h1 h2
  have hat := HO.out.2.2.1.2.1 i
  have hcl : c ≤ L.length := by rw [HO.out.2.2.2.2.2.2]; exact List.count_le_length
  have hwf : (Lit.int .u64 (c + 1 : Int)).wf = true := WalkArith.wf_u64 (by omega)
  have hadd : IntKind.u64.wrap ((c : Int) + 1) = (c + 1 : Int) := by rw [IntKind.wrap_u64]; omega
  have hn : n < maxLen := by have := HO.out.2.1; simp only [maxLen]; omega
  have HC := Lib.hid (And.intro hlo' hhi')
  have HQ := Lib.hid (And.intro hb1 hk1)
  clear hb1 hk1 hlo' hhi' HB
  go_wp2_with (first
    | (at_lookup; refine wpList_lookup_own_int _ rfl _ _ 64 rfl 2 23 .u64 law2 Tryz.underlying64 Tryz.underlying23 (zero23 _) m n D rfl hown1 _ _ rfl hkey ?_; intro c' hat' _; obtain rfl : c' = (c : Int) := litU_inj (hat'.symm.trans (hat.trans (congrArg (fun k : Nat => (DataW.lit (Lit.int .u64 (k : Int)) : DataW Unit)) HO.out.2.2.2.2.2.2.symm))))
    | (at_mapUpdate; refine wpList_mapUpdate_own _ rfl _ _ _ 64 rfl 2 23 law2 Tryz.underlying64 _ m n D rfl hown1 hn _ _ _ rfl rfl hkey _ [] (plainElem_int Tryz.underlying23 hwf) ?_; intro w1 hown2 hgrow1))
  refine bodyPost_end (results_none rfl _ _ _) rfl ⟨rfl, some m, .inr ⟨by simp, m, lo', hi', n + 1, _, rfl, ?_, hmb, hown2, by have := HO.out.2.1; simp; omega, ?_, ?_, ?_, ?_⟩, ?_, fun m' h => .inl h⟩
  · exact (hgrow1.block b (heap_lt HQ.out.1) (by intro e; injection e with e; exact hmb e.symm)).trans HQ.out.1
  · have := HO.out.2.2.1.put i
    rw [← HO.out.2.2.2.2.2.2] at this
    exact this
  · rw [← HC.out.1]
    split
    · simp
    · exact List.mem_cons_of_mem _ HO.out.2.2.2.1
  · rw [← HC.out.2]
    split
    · simp
    · exact List.mem_cons_of_mem _ HO.out.2.2.2.2.1
  · have hall := HO.out.2.2.2.2.2.1
    have e1 := HC.out.1
    have e2 := HC.out.2
    intro x hx
    rcases List.mem_cons.1 hx with rfl | hx
    · constructor
      · rw [← e1]; split <;> omega
      · rw [← e2]; split <;> omega
    · have := hall x hx
      constructor
      · rw [← e1]; split <;> omega
      · rw [← e2]; split <;> omega
  · exact (HQ.out.2.sub (S' := [b, m]) (fun z hz => by simp at hz ⊢; exact .inl hz)).trans ((grownBy_kept hgrow1).sub (fun z hz => by simp at hz ⊢; exact .inr hz))
set_option maxHeartbeats 1000000 in
set_option maxRecDepth 100000 in
theorem add35_first (b : Nat) (i : Int) (w : World) (hb : w.heap[b]? = some (.cells #[.int .i64 0, .int .i64 0, .map none] 66 (0, 0))) (h1 : -4611686018427387904 ≤ i) (h2 : i ≤ 4611686018427387904) :
    Calls Tryz.prog 35 #[.pointer (some ⟨b, 0, none⟩), .int .i64 i] w (AddPost w b [] none i) := by
  have hlt := heap_lt hb
  have c2 : w.cell? ⟨b, 2, none⟩ = some (.map none) := cellOf hb rfl
  have hb' : (w.alloc (.map #[] 0)).heap[b]? = some (.cells #[.int .i64 0, .int .i64 0, .map none] 66 (0, 0)) := (Below.heap_alloc _ _ _ hlt).trans hb
  have c0' : (w.alloc (.map #[] 0)).cell? ⟨b, 0, none⟩ = some (.int .i64 0) := cellOf hb' rfl
  have c1' : (w.alloc (.map #[] 0)).cell? ⟨b, 1, none⟩ = some (.int .i64 0) := cellOf hb' rfl
  have c2' : (w.alloc (.map #[] 0)).cell? ⟨b, 2, none⟩ = some (.map none) := cellOf hb' rfl
  have f0 : (w.alloc (.map #[] 0)).frozen? ⟨b, 0, none⟩ = false := frOf hb'
  have f1 : (w.alloc (.map #[] 0)).frozen? ⟨b, 1, none⟩ = false := frOf hb'
  have f2 : (w.alloc (.map #[] 0)).frozen? ⟨b, 2, none⟩ = false := frOf hb'
  have hmm := @run_makeMap Tryz.prog
  have c0 : w.cell? ⟨b, 0, none⟩ = some (.int .i64 0) := cellOf hb rfl
  have c1 : w.cell? ⟨b, 1, none⟩ = some (.int .i64 0) := cellOf hb rfl
  have g0 : w.frozen? ⟨b, 0, none⟩ = false := frOf hb
  have g1 : w.frozen? ⟨b, 1, none⟩ = false := frOf hb
  have g2 : w.frozen? ⟨b, 2, none⟩ = false := frOf hb
  have HB := Lib.hid hb
  have HB' := Lib.hid hb'
  clear hb hb'
  go_enter Tryz.func35, Tryz.ntmps35
  go_wp2_with fail
  go_region
  rename_i K hK
  refine hK _ _ ?_
  clear hK
  have hs : (((((w.setCell ⟨b, 0, none⟩ (.int .i64 i)).setCell ⟨b, 1, none⟩ (.int .i64 i)).setCell ⟨b, 2, none⟩ (.map (some w.heap.size))).setCell ⟨b, 0, none⟩ (.int .i64 i)).setCell ⟨b, 1, none⟩ (.int .i64 i)).heap.size = w.heap.size := by simp only [setCell_size]
  have hb1 : ((((((w.setCell ⟨b, 0, none⟩ (.int .i64 i)).setCell ⟨b, 1, none⟩ (.int .i64 i)).setCell ⟨b, 2, none⟩ (.map (some w.heap.size))).setCell ⟨b, 0, none⟩ (.int .i64 i)).setCell ⟨b, 1, none⟩ (.int .i64 i)).alloc (.map #[] 0)).drew.heap[b]? = some (.cells #[.int .i64 i, .int .i64 i, .map (some w.heap.size)] 66 (0, 0)) :=
    (Below.heap_alloc _ _ _ (by rw [hs]; exact hlt)).trans (blkSet' (blkSet' (blkSet' (blkSet' (blkSet' HB.out rfl) rfl) rfl) rfl) rfl)
  have hown1 : ((((((w.setCell ⟨b, 0, none⟩ (.int .i64 i)).setCell ⟨b, 1, none⟩ (.int .i64 i)).setCell ⟨b, 2, none⟩ (.map (some w.heap.size))).setCell ⟨b, 0, none⟩ (.int .i64 i)).setCell ⟨b, 1, none⟩ (.int .i64 i)).alloc (.map #[] 0)).drew.ownsMap (H := Unit) Tryz.prog 2 (plainElem Tryz.prog 23) w.heap.size 0 (.map []) := by
    have := (World.ownsMap_made (H := Unit) (((((w.setCell ⟨b, 0, none⟩ (.int .i64 i)).setCell ⟨b, 1, none⟩ (.int .i64 i)).setCell ⟨b, 2, none⟩ (.map (some w.heap.size))).setCell ⟨b, 0, none⟩ (.int .i64 i)).setCell ⟨b, 1, none⟩ (.int .i64 i)) Tryz.prog 2 (plainElem Tryz.prog 23)).drew
    rw [hs] at this
    exact this
  have hk1 : Kept [b] w ((((((w.setCell ⟨b, 0, none⟩ (.int .i64 i)).setCell ⟨b, 1, none⟩ (.int .i64 i)).setCell ⟨b, 2, none⟩ (.map (some w.heap.size))).setCell ⟨b, 0, none⟩ (.int .i64 i)).setCell ⟨b, 1, none⟩ (.int .i64 i)).alloc (.map #[] 0)).drew := ((((((((Kept.refl [b] w).setCell (p := ⟨b, 0, none⟩) (.inl (by simp)) _).setCell (p := ⟨b, 1, none⟩) (.inl (by simp)) _).setCell (p := ⟨b, 2, none⟩) (.inl (by simp)) _).setCell (p := ⟨b, 0, none⟩) (.inl (by simp)) _).setCell (p := ⟨b, 1, none⟩) (.inl (by simp)) _).alloc _).dr ⟨1, rfl⟩)
  generalize ((((((w.setCell ⟨b, 0, none⟩ (.int .i64 i)).setCell ⟨b, 1, none⟩ (.int .i64 i)).setCell ⟨b, 2, none⟩ (.map (some w.heap.size))).setCell ⟨b, 0, none⟩ (.int .i64 i)).setCell ⟨b, 1, none⟩ (.int .i64 i)).alloc (.map #[] 0)).drew = W1 at hb1 hown1 hk1 ⊢
  have d2 : W1.cell? ⟨b, 2, none⟩ = some (.map (some w.heap.size)) := cellOf hb1 rfl
  have hkey := key2 i h1 h2
  have hat := CntMap.empty.2.1 i
  have hn : (0 : Nat) < maxLen := by simp only [maxLen]; omega
  have hwf : (Lit.int .u64 (1 : Int)).wf = true := WalkArith.wf_u64 (by omega)
  have hadd : IntKind.u64.wrap ((0 : Int) + 1) = 1 := by rw [IntKind.wrap_u64]; omega
  have HQ := Lib.hid (And.intro hb1 hk1)
  have HM := Lib.hid (rfl : w.heap.size = w.heap.size)
  have hmb : w.heap.size ≠ b := by omega
  have hsz : ∃ m0, m0 = w.heap.size := ⟨_, rfl⟩
  obtain ⟨m0, hm0⟩ := hsz
  rw [← hm0] at HQ hown1 d2 hmb
  simp only [← hm0]
  have HM0 := Lib.hid hm0
  clear hb1 hk1 HB HB' hm0
  go_wp2_with (first
    | (at_lookup; refine wpList_lookup_own_int _ rfl _ _ 64 rfl 2 23 .u64 law2 Tryz.underlying64 Tryz.underlying23 (zero23 _) m0 0 (.map []) rfl hown1 _ _ rfl hkey ?_; intro c' hat' _; obtain rfl : c' = (0 : Int) := litU_inj (hat'.symm.trans hat))
    | (at_mapUpdate; refine wpList_mapUpdate_own _ rfl _ _ _ 64 rfl 2 23 law2 Tryz.underlying64 _ m0 0 (.map []) rfl hown1 hn _ _ _ rfl rfl hkey _ [] (plainElem_int Tryz.underlying23 hwf) ?_; intro w1 hown2 hgrow1))
  refine bodyPost_end (results_none rfl _ _ _) rfl ⟨rfl, some m0, .inr ⟨by simp, m0, i, i, 0 + 1, _, rfl, ?_, hmb, hown2, by simp, ?_, by simp, by simp, ?_⟩, ?_, fun m' h => .inr (by injection h with h; have := HM0.out; omega)⟩
  · exact (hgrow1.block b (heap_lt HQ.out.1) (by intro e; injection e with e; exact hmb e.symm)).trans HQ.out.1
  · exact CntMap.empty.put i
  · intro x hx
    rcases List.mem_cons.1 hx with rfl | hx
    · exact ⟨Int.le_refl _, Int.le_refl _⟩
    · cases hx
  · exact HQ.out.2.trans2 (grownBy_kept hgrow1) (fun z hz => by simp at hz; have := HM0.out; exact .inr (by omega))
/-- one measurement is added to a side -/
theorem add35 (b : Nat) (i : Int) (L : List Int) (om : Option Nat) (w : World) (hs : SideS w b L om) (hL : L.length ≤ 1000) (h1 : -4611686018427387904 ≤ i) (h2 : i ≤ 4611686018427387904) :
    Calls Tryz.prog 35 #[.pointer (some ⟨b, 0, none⟩), .int .i64 i] w (AddPost w b L om i) := by
  rcases hs with ⟨rfl, rfl, hb⟩ | ⟨hne, m, lo, hi, n, D, rfl, hb, hmb, hown, hn, hc, hlo, hhi, hall⟩
  · exact add35_first b i w hb h1 h2
  · refine add35_more b m lo hi i n (L.count i) L D w hb hmb hown hn hc ?_ hlo hhi hall hL h1 h2 rfl
    exact hc.size_pos hlo
end Go.Proofs.YtlpddogcnpokfaaGreat
