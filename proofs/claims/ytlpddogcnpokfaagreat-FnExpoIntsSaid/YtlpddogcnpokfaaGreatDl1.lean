/- Reading the aggregation: the map of one point, a measurement through the function handed out, new rows, the empty map. -/
import Derived.Test.YtlpddogcnpokfaaGreatPl1
import Derived.Test.YtlpddogcnpokfaaGreatMsr
import Derived.Deep.RegionWith
import Derived.StillTailTactics
import Derived.Laws.IdiomRangeMap
namespace Go.Proofs.YtlpddogcnpokfaaGreat
open Go.RowKit

@[go_sem] theorem run_store_float {P : Program} (w : World) (a : Addr) (m : Mode) (k : FloatKind) (n : Nat) : (store a (.float k n) m).run P w = stored P w a (.float k n) m := run_store P w a _ m rfl

theorem cells131 : Tryz.prog.cellsOf 131 = 18 := by kernel_rfl
theorem cells125 : Tryz.prog.cellsOf 125 = 2 := by kernel_rfl
theorem cells26 : Tryz.prog.cellsOf 26 = 11 := by kernel_rfl

/-- a row of whole numbers of 64 bits -/
def numObj (l : List Nat) : Obj := .cells (l.map U).toArray 23 (0, 0)
/-- a slice that is such a row, or nil -/
def NumAt (w : World) (v : Value) (l : List Nat) : Prop := (v = .slice none 0 0 ∧ l = []) ∨ ∃ g, v = .slice (some ⟨g, 0, none⟩) l.length l.length ∧ l ≠ [] ∧ w.heap[g]? = some (numObj l)
def zeroPt : Array Value := #[.int .u64 0, .slice none 0 0, .int .i64 0, .int .i64 0, .int .u64 0, .float .f64 0, .bool false, .float .f64 0, .bool false, .float .f64 0, .int .i32 0, .int .u64 0, .int .i32 0, .slice none 0 0, .int .i32 0, .slice none 0 0, .float .f64 0, .slice none 0 0]

theorem reset81_nil (w : World) : Calls Tryz.prog 81 #[.slice none 0 0, .int .i64 0, .int .i64 0] w fun e w' => e = .returned (.slice none 0 0) ∧ w = w' := by
  go_enter Tryz.func81, Tryz.ntmps81
  go_wp2_with fail
  go_ret
  exact ⟨rfl, rfl⟩
theorem info23 : ∃ i, Tryz.prog.info? 23 = some i ∧ i.zero = some (.int .u64 0) ∧ i.size = 1 ∧ i.bytes = 8 := by
  have h : (Tryz.prog.info? 23).map (fun i => (i.zero, i.size, i.bytes)) = some (some (.int .u64 0), 1, 8) := by kernel_rfl
  cases hi : Tryz.prog.info? 23 with
  | none => rw [hi] at h; cases h
  | some i => rw [hi] at h; simp only [Option.map_some, Option.some.injEq, Prod.mk.injEq] at h; exact ⟨i, rfl, h.1, h.2.1, h.2.2⟩
theorem run_make24 (n : Nat) (hn : n ≤ 1000) (w : World) : (Instr.makeSlice 24 (.int .i64 n) (.int .i64 n)).run Tryz.prog w = .ok (.slice (some ⟨w.heap.size, 0, none⟩) n n) (w.alloc (numObj (List.replicate n 0))) := by
  obtain ⟨i, hi, hz, hs, hb⟩ := info23
  have h := run_make (P := Tryz.prog) (w := w) 24 23 i _ Tryz.underlying24 hi hz .i64 .i64 (n : Int) (n : Int) (by omega) (by omega) (by rw [hb]; omega) (by omega)
  rw [h, hs]
  have e : madeCells (Value.int .u64 0).cells ((n : Int).toNat * 1) = ((List.replicate n 0).map U).toArray := by
    unfold madeCells
    apply Array.ext_getElem?
    intro i
    simp [Value.cells, U]
    by_cases h : i < n <;> simp [h, Nat.mod_one]
  rw [e]
  simp only [Int.toNat_natCast]
  rfl
theorem run_make123 (w : World) : (Instr.makeSlice 123 (.int .i64 1) (.int .i64 1)).run Tryz.prog w = .ok (.slice (some ⟨w.heap.size, 0, none⟩) 1 1) (w.alloc (.cells zeroPt 131)) := by kernel_rfl
theorem reset81_n (n : Nat) (h0 : 0 < n) (hn : n ≤ 1000) (w : World) : Calls Tryz.prog 81 #[.slice none 0 0, .int .i64 n, .int .i64 n] w fun e w' => e = .returned (.slice (some ⟨w.heap.size, 0, none⟩) n n) ∧ w.alloc (numObj (List.replicate n 0)) = w' := by
  have hmk := fun w => run_make24 n hn w
  go_enter Tryz.func81, Tryz.ntmps81
  go_wp2_with fail
  go_ret
  exact ⟨rfl, rfl⟩
theorem reset97_nil (w : World) : Calls Tryz.prog 97 #[.slice none 0 0, .int .i64 0, .int .i64 0] w fun e w' => e = .returned (.slice none 0 0) ∧ w = w' := by
  go_enter Tryz.func97, Tryz.ntmps97
  go_wp2_with fail
  go_ret
  exact ⟨rfl, rfl⟩
theorem reset97_one (w : World) : Calls Tryz.prog 97 #[.slice none 0 0, .int .i64 1, .int .i64 1] w fun e w' => e = .returned (.slice (some ⟨w.heap.size, 0, none⟩) 1 1) ∧ w.alloc (.cells zeroPt 131) = w' := by
  have hmk := fun w => run_make123 w
  go_enter Tryz.func97, Tryz.ntmps97
  go_wp2_with fail
  go_ret
  exact ⟨rfl, rfl⟩
theorem newExt100 (n : Nat) (w : World) : Calls Tryz.prog 100 #[.float .f64 n] w fun e w' => e = .returned (.agg #[.float .f64 n, .bool true]) ∧ Kept [] w w' := by
  go_enter Tryz.func100, Tryz.ntmps100
  go_wp2_with fail
  have hfin := Lib.hid ((Kept.refl [] w).alloc (.cells #[.float .f64 n, .bool true] 128))
  have r0 : (w.alloc (.cells #[.float .f64 n, .bool true] 128)).cell? ⟨w.heap.size, 0, none⟩ = some (.float .f64 n) := by go_simp
  have r1 : (w.alloc (.cells #[.float .f64 n, .bool true] 128)).cell? ⟨w.heap.size, 1, none⟩ = some (.bool true) := by go_simp
  generalize w.alloc (.cells #[.float .f64 n, .bool true] 128) = X at *
  (try simp only [Exit.inBlock, Exit.then])
  refine bodyPost_ret (by simp [results, Tryz.results100, go_sem, r0, r1]; rfl) rfl ?_
  exact ⟨rfl, hfin.out⟩
theorem extVal48 (n : Nat) (b : Bool) (w : World) : Calls Tryz.prog 48 #[.agg #[.float .f64 n, .bool b]] w fun e w' => e = .returned (.tuple #[.float .f64 n, .bool b]) ∧ Kept [] w w' := by
  go_enter Tryz.func48, Tryz.ntmps48
  go_wp2_with fail
  go_quiet (fail)
  go_wp2_with fail
  go_ret2
  exact ⟨rfl, ((Kept.refl [] w).alloc _).dr ⟨_, rfl⟩⟩
end Go.Proofs.YtlpddogcnpokfaaGreat
namespace Go.Proofs.YtlpddogcnpokfaaGreat
open Go.RowKit

/-- what lies in the map of a histogram behind a list of numbers; F: the blocks that it takes -/
def MapAt (w : World) (b top : Nat) (ms S : Int) (l : List Nat) (F : List Nat) : Prop :=
  (l = [] ∧ F = [] ∧ ∃ c, w.heap[b]? = some (.map #[] c)) ∨
  (l ≠ [] ∧ ∃ d n c fb ni og oh, w.heap[b]? = some (.map #[⟨.agg #[.int .u64 H0], .pointer (some ⟨d, 0, none⟩), n⟩] c) ∧ n < c ∧ SumRun l.reverse fb ni ∧ DpAt w d (mmOf l) fb ni ms (bkOf top ms S l) og oh ∧
    F = d :: (og.toList ++ oh.toList) ∧ (∃ q, w.cell? ⟨d, 0, none⟩ = some (.int .u64 H0) ∧ w.cell? ⟨d, 1, none⟩ = some (.slice (some ⟨q, 0, none⟩) 0 0)) ∧ w.cell? ⟨d, 16, none⟩ = some (.int .i64 0) ∧ d ≠ b)

theorem mem_snoc_fin {top : Nat} {size : Int} {b0 B : Nat} {l : List Nat} {v : Nat} (h : Fine top size b0 B (l ++ [v])) : v < 18446744073709551616 ∧ absW v < 2047 * 2 ^ 52 ∧ (absW v ≠ 0 → Lg.near top (absW v) = false) :=
  ⟨h.lt v (by simp), h.fin v (by simp), h.near v (by simp)⟩
theorem rung_absW (v : Nat) : Lg.rung v = absW v := rfl

/-- a measurement -/
theorem measure59 (h b g v top B : Nat) (ms S : Int) (l F : List Nat) (tm ctx : Value) (w : World)
    (hh : w.heap[h]? = some (.cells (hgCells ms S b tm) 212 (0, 0))) (hm : MapAt w b top ms S l F) (hbF : b ∉ F)
    (hov : ∀ w1, Calls Tryz.prog 71 #[] w1 fun e w' => ∃ x : Int, e = .returned (.agg #[.int .u64 x]) ∧ Kept [] w1 w')
    (fine : Fine top ms ((top : Int) - S).toNat B (l ++ [v])) (hs : 1 ≤ ms) (hs2 : ms ≤ 200) (ht : top ≤ 20) (hS : S ≤ top) (_hS2 : -10 ≤ S) (hl : l.length < 1000) :
    Calls Tryz.prog 59 #[.pointer (some ⟨h, 0, none⟩), ctx, .float .f64 v, lazyV g] w fun e w' => e = .returned (.tuple #[]) ∧ ∃ F', MapAt w' b top ms S (l ++ [v]) F' ∧ Kept (b :: F) w w' ∧ (∀ i, i ∈ F' → i ∈ F ∨ w.heap.size ≤ i) ∧ b ∉ F' := by
  obtain ⟨v1, v2, v3⟩ := mem_snoc_fin fine
  have hfin : Lg.nanW v = false ∧ Lg.infW v = false := (Lg.fin_iff v).1 v2
  have hlim := fine.left.lim hs hs2 ht hS (by omega)
  have hlim2 := fine.lim hs hs2 ht hS (by simp; omega)
  rw [bkOf_snoc] at hlim2
  have hpre : absW v ≠ 0 → RecPre top v ms (bkOf top ms S l) := fun h0 => hlim.1.pre hs hs2 ht hlim.2.1 v1 h0 v2 (v3 h0)
  have e1 := hlim2.1.pl
  have e2 := hlim2.1.nl
  rcases hm with ⟨rfl, rfl, c, hb⟩ | ⟨hne, d, n, c, fb, ni, og, oh, hb, hnc, hsum, hd, rfl, hq, h16, hdb⟩
  · refine (measure59_first h b g c v top ms S tm ctx w hh hb (fun w1 _ => hov w1) v1 hfin.2 hfin.1 hpre (Nat.le_trans e1 (by decide)) (Nat.le_trans e2 (by decide))).mono ?_
    rintro e w' ⟨he, d, fb', ni', og', oh', k1, k2, k3, k4, k5, k6, k7, k8, k9⟩
    have hbl := heap_lt hb
    refine ⟨he, d :: (og'.toList ++ oh'.toList), .inr ⟨by simp, d, c, c + 1, fb', ni', og', oh', k2, by omega, ⟨0, 0, ⟨rfl, rfl⟩, k3⟩, k4, rfl, k8, k9, by omega⟩, k5, ?_, ?_⟩
    · intro i hi
      right
      simp only [List.mem_cons, List.mem_append, Option.mem_toList] at hi
      rcases hi with rfl | hi | hi
      · exact k1
      · exact k6 i hi
      · exact k7 i hi
    · intro hi
      simp only [List.mem_cons, List.mem_append, Option.mem_toList] at hi
      rcases hi with rfl | hi | hi
      · omega
      · have := k6 _ hi; omega
      · have := k7 _ hi; omega
  · have z : (bkOf top ms S l).zc < 4611686018427387904 := by have := hlim.1.sum; omega
    refine (measure59_found h b g c n d v top ms S tm ctx (mmOf l) fb ni (bkOf top ms S l) og oh w hh hb hd v1 hfin.2 hfin.1 z hpre (Nat.le_trans e1 (by decide)) (Nat.le_trans e2 (by decide))).mono ?_
    rintro e w' ⟨he, fb', ni', og', oh', k1, k2, k3, k4, k5, k6⟩
    have hbl := heap_lt hb
    refine ⟨he, d :: (og'.toList ++ oh'.toList), .inr ⟨by simp, d, n, c, fb', ni', og', oh', k3.obj hb hbF, hnc, ?_, ?_, rfl, ?_, (k6 16 (by omega)).trans h16, hdb⟩, k3.sub (fun i hi => List.mem_cons_of_mem _ hi), ?_, ?_⟩
    · rw [List.reverse_append]; exact ⟨fb, ni, hsum, k1⟩
    · rw [mmOf_snoc, bkOf_snoc]; exact k2
    · obtain ⟨q, q1, q2⟩ := hq
      exact ⟨q, (k6 0 (by omega)).trans q1, (k6 1 (by omega)).trans q2⟩
    · intro i hi
      simp only [List.mem_cons, List.mem_append] at hi
      rcases hi with rfl | hi | hi
      · left; simp
      · rcases k4.mem hi with h | h
        · left; simp only [List.mem_cons, List.mem_append]; exact .inr (.inl h)
        · exact .inr h
      · rcases k5.mem hi with h | h
        · left; simp only [List.mem_cons, List.mem_append]; exact .inr (.inr h)
        · exact .inr h
    · intro hi
      simp only [List.mem_cons, List.mem_append] at hi hbF
      rcases hi with hi | hi | hi
      · exact hdb hi.symm
      · rcases k4.mem hi with h | h
        · exact hbF (.inr (.inl h))
        · omega
      · rcases k5.mem hi with h | h
        · exact hbF (.inr (.inr h))
        · omega

theorem SideAt.ofHeap {w w' : World} {b o : Nat} {st : Int} {l : List Nat} {og : Option Nat} (h : SideAt w b o st l og) (hb : w'.heap[b]? = w.heap[b]?) (hg : ∀ g, og = some g → w'.heap[g]? = w.heap[g]?) : SideAt w' b o st l og := by
  obtain ⟨hs, hr⟩ := h
  have hc : ∀ i, w'.cell? ⟨b, i, none⟩ = w.cell? ⟨b, i, none⟩ := fun i => World.cell?_of_block hb
  refine ⟨(hc _).trans hs, ?_⟩
  rcases hr with ⟨hv, rfl, rfl⟩ | ⟨g, F, hv, rfl, hne, hg', hgb, hlF, hF, ht⟩
  · exact .inl ⟨(hc _).trans hv, rfl, rfl⟩
  · exact .inr ⟨g, F, (hc _).trans hv, rfl, hne, (hg g rfl).trans hg', hgb, hlF, hF, ht⟩
/-- what is kept keeps the map's point -/
theorem MapAt.kept {w w' : World} {b top : Nat} {ms S : Int} {l F K : List Nat} (h : MapAt w b top ms S l F) (hk : Kept K w w') (hb : b ∉ K) (hF : ∀ i, i ∈ F → i ∉ K) : MapAt w' b top ms S l F := by
  rcases h with ⟨rfl, rfl, c, hm⟩ | ⟨hne, d, n, c, fb, ni, og, oh, hm, hnc, hsum, hd, rfl, ⟨q, q1, q2⟩, h16, hdb⟩
  · exact .inl ⟨rfl, rfl, c, hk.obj hm hb⟩
  · have hdK : d ∉ K := hF d (by simp)
    have bd : w'.heap[d]? = w.heap[d]? := hk.block d hd.lt hdK
    have c : ∀ i, w'.cell? ⟨d, i, none⟩ = w.cell? ⟨d, i, none⟩ := fun i => World.cell?_of_block bd
    have fz : ∀ i, w'.frozen? ⟨d, i, none⟩ = w.frozen? ⟨d, i, none⟩ := fun i => World.frozen?_of_block bd
    have bg : ∀ g, og = some g → w'.heap[g]? = w.heap[g]? := fun g e => hk.block g (hd.bk.P.lt e).1 (hF g (by simp [e]))
    have bh : ∀ g, oh = some g → w'.heap[g]? = w.heap[g]? := fun g e => hk.block g (hd.bk.N.lt e).1 (hF g (by simp [e]))
    refine .inr ⟨hne, d, n, _, fb, ni, og, oh, hk.obj hm hb, hnc, hsum, ⟨Nat.lt_of_lt_of_le hd.lt hk.size, fun i => (fz i).trans (hd.fz i), ?_, (c _).trans hd.c5, (c _).trans hd.c6, (c _).trans hd.c7, (c _).trans hd.c8, (c _).trans hd.c9, hd.fbl,
      ⟨(c _).trans hd.bk.sc, hd.bk.P.ofHeap bd bg, hd.bk.N.ofHeap bd bh, (c _).trans hd.bk.z, hd.bk.ap⟩⟩, rfl, ⟨q, (c _).trans q1, (c _).trans q2⟩, (c _).trans h16, hdb⟩
    have hmm := hd.mm
    cases hmo : mmOf l with
    | none =>
      rw [hmo] at hmm
      obtain ⟨⟨cs, hb⟩, ⟨v0, h0⟩, ⟨v1, h1⟩, h2⟩ := hmm
      exact ⟨⟨cs, bd.trans hb⟩, ⟨v0, (c _).trans h0⟩, ⟨v1, (c _).trans h1⟩, (c _).trans h2⟩
    | some p =>
      rw [hmo] at hmm
      obtain ⟨mn, mx⟩ := p
      obtain ⟨a0, a1, a2⟩ := hmm
      exact ⟨(c _).trans a0, (c _).trans a1, (c _).trans a2⟩
end Go.Proofs.YtlpddogcnpokfaaGreat
namespace Go.Proofs.YtlpddogcnpokfaaGreat
open Go.RowKit

/-- a measurement through the function that was handed out -/
theorem flt94 (p h b g v top B : Nat) (ms S : Int) (l F : List Nat) (tm ctx : Value) (w : World)
    (hp : w.cell? ⟨p, 0, none⟩ = some (.func (.func 59) #[.pointer (some ⟨h, 0, none⟩)] #[]))
    (hh : w.heap[h]? = some (.cells (hgCells ms S b tm) 212 (0, 0))) (hm : MapAt w b top ms S l F) (hbF : b ∉ F)
    (hov : ∀ w1, Calls Tryz.prog 71 #[] w1 fun e w' => ∃ x : Int, e = .returned (.agg #[.int .u64 x]) ∧ Kept [] w1 w')
    (fine : Fine top ms ((top : Int) - S).toNat B (l ++ [v])) (hs : 1 ≤ ms) (hs2 : ms ≤ 200) (ht : top ≤ 20) (hS : S ≤ top) (hS2 : -10 ≤ S) (hl : l.length < 1000) :
    Calls Tryz.prog 94 #[ctx, .float .f64 v, setV g, .pointer (some ⟨p, 0, none⟩)] w fun e w' => e = .returned (.tuple #[]) ∧ ∃ F', MapAt w' b top ms S (l ++ [v]) F' ∧ Kept (b :: F) w w' ∧ (∀ i, i ∈ F' → i ∈ F ∨ w.heap.size ≤ i) ∧ b ∉ F' := by
  have hpl := cell_lt hp
  obtain ⟨W, hW⟩ : ∃ W, W = w.alloc (.cells #[.int .u64 H0, .slice (some ⟨g, 0, none⟩) 0 0] 99) := ⟨_, rfl⟩
  have HK := Lib.hid (show Kept [] w W.drew by rw [hW]; exact ((Kept.refl _ _).alloc _).dr ⟨1, rfl⟩)
  have l0 : W.drew.cell? ⟨w.heap.size, 0, none⟩ = some (.int .u64 H0) := by subst hW; go_simp
  have l1 : W.drew.cell? ⟨w.heap.size, 1, none⟩ = some (.slice (some ⟨g, 0, none⟩) 0 0) := by subst hW; go_simp
  have lp : W.drew.cell? ⟨p, 0, none⟩ = some (.func (.func 59) #[.pointer (some ⟨h, 0, none⟩)] #[]) := by subst hW; show (w.alloc _).cell? _ = _; rw [← hp]; exact ((Kept.refl [] w).alloc _).cell hpl (by simp)
  have C66 : ∀ (w1 : World), w1.cell? ⟨p, 0, none⟩ = some (.func (.func 59) #[.pointer (some ⟨h, 0, none⟩)] #[]) → Calls Tryz.prog 66 #[setV g, .nilFunc] w1 fun e w' => e = .returned (lazyV g) ∧ w'.cell? ⟨p, 0, none⟩ = some (.func (.func 59) #[.pointer (some ⟨h, 0, none⟩)] #[]) ∧ Hid (Kept [] w1 w') := by
    intro w1 h1
    refine (lazy66 g w1).mono ?_
    rintro e w' ⟨rfl, hk⟩
    exact ⟨rfl, (hk.cell (cell_lt h1) (by simp)).trans h1, Lib.hid hk⟩
  have C59 : ∀ w1, Kept [] w w1 → Calls Tryz.prog 59 #[.pointer (some ⟨h, 0, none⟩), ctx, .float .f64 v, lazyV g] w1 fun e w' => e = .returned (.tuple #[]) ∧ Hid (∃ F', MapAt w' b top ms S (l ++ [v]) F' ∧ Kept (b :: F) w w' ∧ (∀ i, i ∈ F' → i ∈ F ∨ w.heap.size ≤ i) ∧ b ∉ F') := by
    intro w1 hk
    refine (measure59 h b g v top B ms S l F tm ctx w1 (hk.obj hh (by simp)) (hm.kept hk (by simp) (by simp)) hbF hov fine hs hs2 ht hS hS2 hl).mono ?_
    rintro e w' ⟨he, F', m1, m2, m3, m4⟩
    exact ⟨he, Lib.hid ⟨F', m1, (hk.sub (by simp)).trans m2, fun i hi => (m3 i hi).imp id fun h => Nat.le_trans hk.size h, m4⟩⟩
  clear hh hm hbF fine hp
  unfold setV lazyV at *
  go_enter Tryz.func94, Tryz.ntmps94
  go_wp2_with fail
  rw [← hW]
  clear hW
  go_region_with (first | (go_at_call 66; refine (C66 _ lp).mono ?_; rintro e w' ⟨rfl, lp, hk⟩) | (go_at_call 59; refine (C59 _ (HK.out.trans hk.out)).mono ?_; rintro e w2 ⟨rfl, hq⟩) | fail)
  all_goals
    go_wp2_with fail
    go_end0
    exact ⟨rfl, hq.out⟩
end Go.Proofs.YtlpddogcnpokfaaGreat
namespace Go.Proofs.YtlpddogcnpokfaaGreat
open Go.RowKit

def hgAgg0 : Value := .agg #[.slice none 0 0, .int .u8 0]
theorem as125_nil (w : World) : (Instr.typeAssert .nilIface 102 125 true).run Tryz.prog w = .ok (.tuple #[hgAgg0, .bool false]) w := by kernel_rfl
theorem mk125 (v : Value) (n : Int) (w : World) : (Instr.makeInterface 125 (.agg #[v, .int .u8 n])).run Tryz.prog w = .ok (.iface 125 (.agg #[v, .int .u8 n])) w := by kernel_rfl

/-- the world with another thing in a block -/
def putObj (w : World) (b : Nat) (o : Obj) : World := { w with heap := w.heap.setIfInBounds b o }
theorem putObj_kept {S : List Nat} {a w : World} (h : Kept S a w) {b : Nat} (hb : b ∈ S ∨ a.heap.size ≤ b) (o : Obj) : Kept S a (putObj w b o) := by
  refine ⟨h.os, h.tape, h.output, ?_, fun i hi hn => ?_⟩
  · have := h.size
    simpa [putObj] using this
  · have hne : b ≠ i := by rintro rfl; rcases hb with hb | hb; exact hn hb; omega
    rw [← h.block i hi hn]
    simp [putObj, hne]
theorem putObj_at {w : World} {b : Nat} (hb : b < w.heap.size) (o : Obj) : (putObj w b o).heap[b]? = some o := by simp [putObj, hb]
theorem putObj_other {w : World} {b k : Nat} (hk : b ≠ k) (o : Obj) : (putObj w b o).heap[k]? = w.heap[k]? := by simp [putObj, hk]
theorem putObj_size (w : World) (b : Nat) (o : Obj) : (putObj w b o).heap.size = w.heap.size := by simp [putObj]

theorem len210 (b c : Nat) (es : Array MapEntry) (w : World) (hb : w.heap[b]? = some (.map es c)) (ty : TypeId) : (Builtin.len_ #[210] ty #[.map (some b)]).run Tryz.prog w = .ok (.int .i64 (es.size : Int)) w := by
  simp [Builtin.len_, run_underlying Tryz.underlying210, MapKept.run_getObj_map hb, goInt]
theorem clear210 (b c : Nat) (es : Array MapEntry) (w : World) (hb : w.heap[b]? = some (.map es c)) (ty : TypeId) : (Builtin.clear_ #[210] ty #[.map (some b)]).run Tryz.prog w = .ok (.tuple #[]) (putObj w b (.map #[] c)) := by
  simp [Builtin.clear_, run_underlying Tryz.underlying210, MapKept.run_getObj_map hb, MapKept.run_setObj_map _ hb, Result.andThen, putObj]
theorem range210 (b c : Nat) (es : Array MapEntry) (w : World) (hb : w.heap[b]? = some (.map es c)) : (Instr.range 210 (.map (some b))).run Tryz.prog w = .ok (.pointer (some ⟨w.heap.size, 0, none⟩)) (w.alloc (.mapIter (some b) c #[] c)) := by
  exact run_range_map w 210 _ _ b es c Tryz.underlying210 hb
theorem next210_none (b r c s k : Nat) (seen : Array Nat) (w : World) (hb : w.heap[b]? = some (.map #[] c)) (hr : w.heap[r]? = some (.mapIter (some b) s seen k)) (ty : TypeId) :
    (Instr.next (.pointer (some ⟨r, 0, none⟩)) false ty).run Tryz.prog w = .ok (.tuple #[.bool false]) w := by
  simp [Instr.next, getObj, Sem.run_bind, Sem.run, hr, hb, Result.andThen, choose, Question.forced]
theorem next210_one (b r c n : Nat) (x y : Value) (w : World) (hb : w.heap[b]? = some (.map #[⟨x, y, n⟩] c)) (hr : w.heap[r]? = some (.mapIter (some b) c #[] c)) (hn : n < c) (ty : TypeId) :
    (Instr.next (.pointer (some ⟨r, 0, none⟩)) false ty).run Tryz.prog w = .ok (.tuple #[.bool true, x, y]) (putObj w r (.mapIter (some b) c #[n] c)) := by
  have h1 : ¬ c ≤ n := by omega
  simp [Instr.next, getObj, setObj, Sem.run_bind, Sem.run, hr, hb, Result.andThen, choose, Question.forced, hn, h1, putObj]
theorem next210_end (b r c n : Nat) (x y : Value) (w : World) (hb : w.heap[b]? = some (.map #[⟨x, y, n⟩] c)) (hr : w.heap[r]? = some (.mapIter (some b) c #[n] c)) (hn : n < c) (ty : TypeId) :
    (Instr.next (.pointer (some ⟨r, 0, none⟩)) false ty).run Tryz.prog w = .ok (.tuple #[.bool false]) w := by
  have h1 : ¬ c ≤ n := by omega
  simp [Instr.next, getObj, setObj, Sem.run_bind, Sem.run, hr, hb, Result.andThen, choose, Question.forced, h1]
theorem entry210 (b r c n : Nat) (x y : Value) (w : World) (hb : w.heap[b]? = some (.map #[⟨x, y, n⟩] c)) (hr : w.heap[r]? = some (.mapIter (some b) c #[n] c)) :
    (Instr.entry (.pointer (some ⟨r, 0, none⟩))).run Tryz.prog w = .ok (.tuple #[x, y]) w := by
  simp [Instr.entry, getObj, Sem.run_bind, Sem.run, hr, hb, Result.andThen, Array.back?]
end Go.Proofs.YtlpddogcnpokfaaGreat
namespace Go.Proofs.YtlpddogcnpokfaaGreat
open Go.RowKit

set_option maxRecDepth 100000 in
theorem delta60_nil (h b q top : Nat) (ms S : Int) (w : World)
    (hh : w.heap[h]? = some (.cells (hgCells ms S b (.int .i64 0)) 212 (0, 0))) (hm : MapAt w b top ms S [] []) (hq : w.cell? ⟨q, 0, none⟩ = some .nilIface) (hqf : w.frozen? ⟨q, 0, none⟩ = false) (hqb : q ≠ b) (_hqh : q ≠ h) (hhb : h ≠ b) :
    Calls Tryz.prog 60 #[.pointer (some ⟨h, 0, none⟩), .pointer (some ⟨q, 0, none⟩)] w fun e w' => e = .returned (.int .i64 0) ∧ MapAt w' b top ms S [] [] ∧ Kept [q, b] w w' ∧ w'.cell? ⟨q, 0, none⟩ = some (.iface 125 (.agg #[.slice none 0 0, .int .u8 2])) := by
  have ha := as125_nil
  have hk := mk125
  unfold hgAgg0 at ha
  have HH := Lib.hid hh
  have HM := Lib.hid hm
  have hql := cell_lt hq
  clear hh hm
  go_enter_defers Tryz.func60, Tryz.ntmps60
  go_wp2_with fail
  refine (now64 _).mono ?_; rintro e w1 ⟨rfl, hk1⟩
  have c1 : w1.cell? ⟨q, 0, none⟩ = some .nilIface := (hk1.cell hql (by simp)).trans hq
  have f1 : w1.frozen? ⟨q, 0, none⟩ = false := (hk1.frozen hql (by simp)).trans hqf
  have hl1 : q < w1.heap.size := cell_lt c1
  have hn1 : q ≠ w1.heap.size := by omega
  have K1 := Lib.hid hk1
  clear hk1 hq hqf
  obtain ⟨W2, hW2⟩ : ∃ W2, W2 = (w1.alloc (.cells #[.int .i64 0] 109)).alloc (.cells #[.slice none 0 0, .int .u8 2] 125) := ⟨_, rfl⟩
  have K2 := Lib.hid (show Kept [] w W2 by rw [hW2]; exact ((K1.out.alloc _).alloc _))
  have hh2 := K2.out.obj HH.out (by simp)
  have hpa := part212 W2 h _ _ hh2
  have c2 : W2.cell? ⟨q, 0, none⟩ = some .nilIface := by rw [hW2]; go_simp
  have f2 : W2.frozen? ⟨q, 0, none⟩ = false := by rw [hW2]; go_simp
  have t0 : W2.cell? ⟨w1.heap.size, 0, none⟩ = some (.int .i64 0) := by rw [hW2]; go_simp
  have a0 : W2.cell? ⟨w1.heap.size + 1, 0, none⟩ = some (.slice none 0 0) := by rw [hW2]; go_simp
  have a1 : W2.cell? ⟨w1.heap.size + 1, 1, none⟩ = some (.int .u8 2) := by rw [hW2]; go_simp
  have b0 : W2.frozen? ⟨w1.heap.size + 1, 0, none⟩ = false := by rw [hW2]; go_simp
  have c5 : W2.cell? ⟨h, 5, none⟩ = some (.map (some b)) := by unfold World.cell? hgCells at *; simp [hh2]
  have c6 : W2.cell? ⟨h, 6, none⟩ = some (.int .i64 0) := by unfold World.cell? hgCells at *; simp [hh2]
  have g6 : W2.frozen? ⟨h, 6, none⟩ = false := by unfold World.frozen? hgCells at *; simp [hh2]
  have hbx : w.heap.size ≤ w1.heap.size := by have := K1.out.size; omega
  have hbw : b < w.heap.size := by
    rcases HM.out with ⟨-, -, c', h⟩ | ⟨h, -⟩
    · exact heap_lt h
    · exact absurd rfl h
  obtain ⟨c, hb2⟩ : ∃ c, W2.heap[b]? = some (.map #[] c) := by
    rcases (HM.out.kept K2.out (by simp) (by simp)) with ⟨-, -, c, h⟩ | ⟨h, -⟩
    · exact ⟨c, h⟩
    · exact absurd rfl h
  obtain ⟨W3, hW3⟩ : ∃ W3, W3 = W2.alloc (.mapIter (some b) c #[] c) := ⟨_, rfl⟩
  have K3 := Lib.hid (show Kept [] W2 W3 by rw [hW3]; exact (Kept.refl _ _).alloc _)
  have hb3 := K3.out.obj hb2 (by simp)
  have hr3 : W3.heap[W2.heap.size]? = some (.mapIter (some b) c #[] c) := by rw [hW3]; exact alloc_new _ _
  have hlen := len210 b c #[] W2 hb2
  have hrng := range210 b c #[] W2 hb2
  rw [← hW3] at hrng
  have hnx := next210_none b W2.heap.size c c c #[] W3 hb3 hr3
  have hclr := clear210 b c #[] W3 hb3
  have hbl3 := heap_lt hb3
  have hl2 : q < W2.heap.size := cell_lt c2
  have hlt2 : w1.heap.size < W2.heap.size := cell_lt t0
  have hla2 : w1.heap.size + 1 < W2.heap.size := cell_lt a0
  have hlh2 : h < W2.heap.size := cell_lt c5
  have hbl2 := heap_lt hb2
  obtain ⟨W4, hW4⟩ : ∃ W4, W4 = putObj W3 b (.map #[] c) := ⟨_, rfl⟩
  have K4 := Lib.hid (show Kept [b] W2 W4 by rw [hW4]; exact putObj_kept (K3.out.sub (by simp)) (.inl (by simp)) _)
  rw [← hW4] at hclr
  have hb4 := Lib.hid (show W4.heap[b]? = some (.map #[] c) by rw [hW4]; exact putObj_at hbl3 _)
  have d2 : W4.cell? ⟨q, 0, none⟩ = some .nilIface := (K4.out.cell hl2 (by simp; exact hqb)).trans c2
  have e2 : W4.frozen? ⟨q, 0, none⟩ = false := (K4.out.frozen hl2 (by simp; exact hqb)).trans f2
  have dt : W4.cell? ⟨w1.heap.size, 0, none⟩ = some (.int .i64 0) := (K4.out.cell hlt2 (by simp; omega)).trans t0
  have da : W4.cell? ⟨w1.heap.size + 1, 0, none⟩ = some (.slice none 0 0) := (K4.out.cell hla2 (by simp; omega)).trans a0
  have db : W4.cell? ⟨w1.heap.size + 1, 1, none⟩ = some (.int .u8 2) := (K4.out.cell hla2 (by simp; omega)).trans a1
  have ea : W4.frozen? ⟨w1.heap.size + 1, 0, none⟩ = false := (K4.out.frozen hla2 (by simp; omega)).trans b0
  have d6 : W4.cell? ⟨h, 6, none⟩ = some (.int .i64 0) := (K4.out.cell hlh2 (by simp; exact hhb)).trans c6
  have e6 : W4.frozen? ⟨h, 6, none⟩ = false := (K4.out.frozen hlh2 (by simp; exact hhb)).trans g6
  have hset6 := setCell_id W4 _ _ d6
  have hseta := setCell_id W4 _ _ da
  have d5 : W3.cell? ⟨h, 5, none⟩ = some (.map (some b)) := (K3.out.cell hlh2 (by simp)).trans c5
  have hb2' := Lib.hid hb2
  clear hh2 hb2 hb3 hr3
  have hpb := hpa
  rw [hW2] at hpb
  go_wp2_with fail
  rw [← hW2]
  refine (lock68 _ _).mono ?_; rintro e w' ⟨rfl, rfl⟩
  clear hW2 c1 f1 hl1 hn1 hpb hW3 hW4
  go_wp2_with fail
  refine (reset97_nil _).mono ?_; rintro e w' ⟨rfl, rfl⟩
  go_wp2_with fail
  refine wp_loop_once ?_
  go_wp2_with fail
  refine leaves_cons (f := 69) (args := #[.pointer (some ⟨h, 6, none⟩)]) (by show ¬ (FrameMode.returning = FrameMode.run); intro h; cases h) (by simp [go_sem]) ?_
  refine (unlock69 _ .returning _).mono ?_
  rintro e u' w'' ⟨rfl, rfl, rfl⟩
  have hz : ∀ v, (W4.setCell ⟨q, 0, none⟩ v).cell? ⟨q, 0, none⟩ = some v := by intro v; go_simp
  refine ⟨_, results_tmp rfl _ _ _, rfl, .inl ⟨rfl, rfl, c, ?_⟩, ?_, hz _⟩
  · rw [Below.heap_setCell _ _ _ _ hqb.symm]; exact hb4.out
  · exact ((K2.out.sub (by simp)).trans (K4.out.sub (by simp))).setCell (.inl (by simp)) _
end Go.Proofs.YtlpddogcnpokfaaGreat
namespace Go.Proofs.YtlpddogcnpokfaaGreat
open Go.RowKit
theorem cellOf {w : World} {g i : Nat} {cs : Array Value} {t : TypeId} {v : Value} (h : w.heap[g]? = some (.cells cs t (0, 0))) (hi : cs[i]? = some v) : w.cell? ⟨g, i, none⟩ = some v := by
  unfold World.cell?; simp [h, hi]
theorem frOf {w : World} {g i : Nat} {cs : Array Value} {t : TypeId} (h : w.heap[g]? = some (.cells cs t (0, 0))) : w.frozen? ⟨g, i, none⟩ = false := by
  unfold World.frozen?; simp [h]
theorem blkSet {w : World} {g i : Nat} {cs : Array Value} {t : TypeId} {v : Value} (h : w.heap[g]? = some (.cells cs t (0, 0))) : (w.setCell ⟨g, i, none⟩ v).heap[g]? = some (.cells (cs.setIfInBounds i v) t (0, 0)) := by
  have hl := heap_lt h
  have he : w.heap[g] = .cells cs t (0, 0) := by rw [Array.getElem?_eq_getElem hl] at h; exact Option.some.inj h
  unfold World.setCell
  simp [hl, Array.getElem_modify, he]
theorem blkSet' {w : World} {g i : Nat} {cs cs' : Array Value} {t : TypeId} {v : Value} (h : w.heap[g]? = some (.cells cs t (0, 0))) (e : cs.setIfInBounds i v = cs') : (w.setCell ⟨g, i, none⟩ v).heap[g]? = some (.cells cs' t (0, 0)) := by
  rw [← e]; exact blkSet h
/-- a world's facts in the place of the world -/
theorem grab {P : Program} {f : FuncId} {args : Array Value} {W : World} {R : Ending → World → Prop} (Φ : World → Prop) (h : Φ W) (k : ∀ W, Φ W → Calls P f args W R) : Calls P f args W R := k W h
/-- what a part of the collection leaves: the point's cells so far -/
def Got (W : World) (g : Nat) (cs : Array Value) (w : World) : Prop := w.heap[g]? = some (.cells cs 131 (0, 0)) ∧ Kept [g] W w
theorem Got.set {W w : World} {g i : Nat} {cs cs' : Array Value} {v : Value} (h : Got W g cs w) (e : cs.setIfInBounds i v = cs') : Got W g cs' (w.setCell ⟨g, i, none⟩ v) :=
  ⟨blkSet' h.1 e, h.2.setCell (.inl (by simp)) _⟩
theorem Got.dr {W w w' : World} {g : Nat} {cs : Array Value} (h : Got W g cs w) (hd : Dr w w') : Got W g cs w' := by
  have := h.2.dr hd
  obtain ⟨k, rfl⟩ := hd
  exact ⟨h.1, this⟩
theorem Got.kept {W w w' : World} {g : Nat} {cs : Array Value} (h : Got W g cs w) (hk : Kept [] w w') (_hg : g < w.heap.size) : Got W g cs w' :=
  ⟨hk.obj h.1 (by simp), h.2.trans (hk.sub (by simp))⟩
theorem DpAt.other {w w' : World} {d g : Nat} {mm : Option (Nat × Nat)} {fb : Nat} {ni ms : Int} {s : Bk} {og oh : Option Nat} (h : DpAt w d mm fb ni ms s og oh) (hk : Kept [g] w w') (hd : d ≠ g) (h1 : og ≠ some g) (h2 : oh ≠ some g) (hmm : ∃ m, mm = some m) : DpAt w' d mm fb ni ms s og oh := by
  have bd : w'.heap[d]? = w.heap[d]? := hk.block d h.lt (by simpa using hd)
  have c : ∀ i, w'.cell? ⟨d, i, none⟩ = w.cell? ⟨d, i, none⟩ := fun i => World.cell?_of_block bd
  have fz : ∀ i, w'.frozen? ⟨d, i, none⟩ = w.frozen? ⟨d, i, none⟩ := fun i => World.frozen?_of_block bd
  have bg : ∀ x, og = some x → w'.heap[x]? = w.heap[x]? := fun x e => hk.block x (h.bk.P.lt e).1 (by simp; rintro rfl; exact h1 e)
  have bh : ∀ x, oh = some x → w'.heap[x]? = w.heap[x]? := fun x e => hk.block x (h.bk.N.lt e).1 (by simp; rintro rfl; exact h2 e)
  refine ⟨Nat.lt_of_lt_of_le h.lt hk.size, fun i => (fz i).trans (h.fz i), ?_, (c _).trans h.c5, (c _).trans h.c6, (c _).trans h.c7, (c _).trans h.c8, (c _).trans h.c9, h.fbl, ⟨(c _).trans h.bk.sc, h.bk.P.ofHeap bd bg, h.bk.N.ofHeap bd bh, (c _).trans h.bk.z, h.bk.ap⟩⟩
  obtain ⟨⟨mn, mx⟩, rfl⟩ := hmm
  obtain ⟨a0, a1, a2⟩ := h.mm
  exact ⟨(c _).trans a0, (c _).trans a1, (c _).trans a2⟩
/-- a new row of numbers, or nil, behind an address -/
def NumIn (W w : World) (ad : Option Addr) (l : List Nat) : Prop := (ad = none ∧ l = []) ∨ ∃ x, ad = some ⟨x, 0, none⟩ ∧ l ≠ [] ∧ W.heap.size ≤ x ∧ w.heap[x]? = some (numObj l)
/-- where a new row of n numbers lies -/
def adOf (n : Nat) (w : World) : Option Addr := if n = 0 then none else some ⟨w.heap.size, 0, none⟩
/-- a new row of n numbers, or nil -/
theorem reset81 (n : Nat) (hn : n ≤ 1000) (w : World) : Calls Tryz.prog 81 #[.slice none 0 0, .int .i64 n, .int .i64 n] w fun e w' => e = .returned (.slice (adOf n w) n n) ∧ NumAt w' (.slice (adOf n w) n n) (List.replicate n 0) ∧ Kept [] w w' := by
  unfold adOf
  rcases Nat.eq_zero_or_pos n with rfl | h
  · refine (reset81_nil w).mono ?_
    rintro e w' ⟨rfl, rfl⟩
    exact ⟨rfl, .inl ⟨rfl, rfl⟩, Kept.refl _ _⟩
  · refine (reset81_n n h hn w).mono ?_
    rintro e w' ⟨rfl, rfl⟩
    rw [if_neg (by omega)]
    refine ⟨rfl, .inr ⟨w.heap.size, by simp, by intro e; have := congrArg List.length e; simp at this; omega, alloc_new _ _⟩, (Kept.refl _ _).alloc _⟩
theorem reset81_in (n : Nat) (hn : n ≤ 1000) (W w : World) (hW : W.heap.size ≤ w.heap.size) : Calls Tryz.prog 81 #[.slice none 0 0, .int .i64 n, .int .i64 n] w fun e w' => e = .returned (.slice (adOf n w) n n) ∧ NumIn W w' (adOf n w) (List.replicate n 0) ∧ Kept [] w w' := by
  unfold adOf
  rcases Nat.eq_zero_or_pos n with rfl | h
  · refine (reset81_nil w).mono ?_
    rintro e w' ⟨rfl, rfl⟩
    exact ⟨rfl, .inl ⟨rfl, rfl⟩, Kept.refl _ _⟩
  · refine (reset81_n n h hn w).mono ?_
    rintro e w' ⟨rfl, rfl⟩
    rw [if_neg (by omega)]
    refine ⟨rfl, .inr ⟨w.heap.size, rfl, by intro e; have := congrArg List.length e; simp at this; omega, hW, alloc_new _ _⟩, (Kept.refl _ _).alloc _⟩
theorem NumIn.kept {W w w' : World} {S : List Nat} {ad : Option Addr} {l : List Nat} (h : NumIn W w ad l) (hk : Kept S w w') (hS : ∀ i, i ∈ S → i < W.heap.size) : NumIn W w' ad l := by
  rcases h with h | ⟨x, h1, h2, h3, h4⟩
  · exact .inl h
  · exact .inr ⟨x, h1, h2, h3, hk.obj h4 fun hm => by have := hS x hm; omega⟩
theorem NumIn.at {W w : World} {ad : Option Addr} {l : List Nat} (h : NumIn W w ad l) : NumAt w (.slice ad l.length l.length) l := by
  rcases h with ⟨rfl, rfl⟩ | ⟨x, rfl, h2, _, h4⟩
  · exact .inl ⟨rfl, rfl⟩
  · exact .inr ⟨x, rfl, h2, h4⟩
theorem numObj_set {w : World} {x m v : Nat} {l : List Nat} (h : w.heap[x]? = some (numObj l)) : (w.setCell ⟨x, m, none⟩ (U v)).heap[x]? = some (numObj (l.set m v)) := by
  rw [blkSet h]
  unfold numObj
  congr 2
  apply Array.ext'
  simp [List.map_set]
theorem numObj_cell {w : World} {x m : Nat} {l : List Nat} (h : w.heap[x]? = some (numObj l)) (hm : m < l.length) : w.cell? ⟨x, m, none⟩ = some (U (l.getD m 0)) :=
  cellOf h (by simp [hm])
/-- a row, filled so far -/
def fill (l : List Nat) (m : Nat) : List Nat := l.take m ++ List.replicate (l.length - m) 0
theorem fill_zero (l : List Nat) : fill l 0 = List.replicate l.length 0 := by simp [fill]
theorem fill_all (l : List Nat) : fill l l.length = l := by simp [fill]
theorem fill_len (l : List Nat) (m : Nat) (h : m ≤ l.length) : (fill l m).length = l.length := by simp [fill]; omega
theorem fill_set (l : List Nat) (m : Nat) (h : m < l.length) : (fill l m).set m (l.getD m 0) = fill l (m + 1) := by
  unfold fill
  have e : l.length - m = (l.length - (m + 1)) + 1 := by omega
  have hl : (l.take m).length = m := by simp; omega
  have hx : l.getD m 0 = l[m] := by simp [List.getD_eq_getElem?_getD, List.getElem?_eq_getElem h]
  rw [e, List.replicate_succ, List.set_append_right _ _ (by omega), hl, Nat.sub_self, List.set_cons_zero, List.take_succ_eq_append_getElem h, List.append_assoc, hx]
  rfl
end Go.Proofs.YtlpddogcnpokfaaGreat
namespace Go.Proofs.YtlpddogcnpokfaaGreat
open Go.RowKit
theorem Got.alloc {W w : World} {g : Nat} {cs : Array Value} (h : Got W g cs w) (O : Obj) : Got W g cs (w.alloc O) :=
  ⟨by rw [Below.heap_alloc _ _ _ (heap_lt h.1)]; exact h.1, h.2.alloc O⟩
/-- what a sum reads as -/
def SumRd (fb : Nat) (ni : Int) (r : Nat) : Prop := r < 18446744073709551616 ∧ ∀ r0, floatBits .add .f64 fb (floatOfInt .f64 ni) = some r0 → r = r0
/-- a point's cells, as a collection lays them -/
def ptCells (q : Nat) (cnt : Nat) (mn mx r : Nat) (s : Bk) (vp vn : Value) : Array Value := #[.int .u64 H0, .slice (some ⟨q, 0, none⟩) 0 0, .int .i64 0, .int .i64 0, U cnt, .float .f64 mn, .bool true, .float .f64 mx, .bool true, .float .f64 r, .int .i32 s.sc, U s.zc, .int .i32 s.ps, vp, .int .i32 s.ns, vn, .float .f64 0, .slice none 0 0]
end Go.Proofs.YtlpddogcnpokfaaGreat
namespace Go.Proofs.YtlpddogcnpokfaaGreat
open Go.RowKit
set_option maxRecDepth 100000 in
theorem cum61_nil (h b q top : Nat) (ms S : Int) (w : World)
    (hh : w.heap[h]? = some (.cells (hgCells ms S b (.int .i64 0)) 212 (0, 0))) (hm : MapAt w b top ms S [] []) (hq : w.cell? ⟨q, 0, none⟩ = some .nilIface) (hqf : w.frozen? ⟨q, 0, none⟩ = false) (hqb : q ≠ b) (_hqh : q ≠ h) (_hhb : h ≠ b) :
    Calls Tryz.prog 61 #[.pointer (some ⟨h, 0, none⟩), .pointer (some ⟨q, 0, none⟩)] w fun e w' => e = .returned (.int .i64 0) ∧ MapAt w' b top ms S [] [] ∧ Kept [q] w w' ∧ w'.cell? ⟨q, 0, none⟩ = some (.iface 125 (.agg #[.slice none 0 0, .int .u8 1])) := by
  have ha := as125_nil
  have hk := mk125
  unfold hgAgg0 at ha
  have HH := Lib.hid hh
  have HM := Lib.hid hm
  have hql := cell_lt hq
  clear hh hm
  go_enter_defers Tryz.func61, Tryz.ntmps61
  go_wp2_with fail
  refine (now64 _).mono ?_; rintro e w1 ⟨rfl, hk1⟩
  have c1 : w1.cell? ⟨q, 0, none⟩ = some .nilIface := (hk1.cell hql (by simp)).trans hq
  have f1 : w1.frozen? ⟨q, 0, none⟩ = false := (hk1.frozen hql (by simp)).trans hqf
  have hl1 : q < w1.heap.size := cell_lt c1
  have hn1 : q ≠ w1.heap.size := by omega
  have K1 := Lib.hid hk1
  clear hk1 hq hqf
  obtain ⟨W2, hW2⟩ : ∃ W2, W2 = (w1.alloc (.cells #[.int .i64 0] 109)).alloc (.cells #[.slice none 0 0, .int .u8 1] 125) := ⟨_, rfl⟩
  have K2 := Lib.hid (show Kept [] w W2 by rw [hW2]; exact ((K1.out.alloc _).alloc _))
  have hh2 := K2.out.obj HH.out (by simp)
  have hpa := part212 W2 h _ _ hh2
  have c2 : W2.cell? ⟨q, 0, none⟩ = some .nilIface := by rw [hW2]; go_simp
  have f2 : W2.frozen? ⟨q, 0, none⟩ = false := by rw [hW2]; go_simp
  have t0 : W2.cell? ⟨w1.heap.size, 0, none⟩ = some (.int .i64 0) := by rw [hW2]; go_simp
  have a0 : W2.cell? ⟨w1.heap.size + 1, 0, none⟩ = some (.slice none 0 0) := by rw [hW2]; go_simp
  have a1 : W2.cell? ⟨w1.heap.size + 1, 1, none⟩ = some (.int .u8 1) := by rw [hW2]; go_simp
  have b0 : W2.frozen? ⟨w1.heap.size + 1, 0, none⟩ = false := by rw [hW2]; go_simp
  have c5 : W2.cell? ⟨h, 5, none⟩ = some (.map (some b)) := by unfold World.cell? hgCells at *; simp [hh2]
  have c6 : W2.cell? ⟨h, 6, none⟩ = some (.int .i64 0) := by unfold World.cell? hgCells at *; simp [hh2]
  have g6 : W2.frozen? ⟨h, 6, none⟩ = false := by unfold World.frozen? hgCells at *; simp [hh2]
  have hbx : w.heap.size ≤ w1.heap.size := by have := K1.out.size; omega
  have hbw : b < w.heap.size := by
    rcases HM.out with ⟨-, -, c', h⟩ | ⟨h, -⟩
    · exact heap_lt h
    · exact absurd rfl h
  obtain ⟨c, hb2⟩ : ∃ c, W2.heap[b]? = some (.map #[] c) := by
    rcases (HM.out.kept K2.out (by simp) (by simp)) with ⟨-, -, c, h⟩ | ⟨h, -⟩
    · exact ⟨c, h⟩
    · exact absurd rfl h
  obtain ⟨W3, hW3⟩ : ∃ W3, W3 = W2.alloc (.mapIter (some b) c #[] c) := ⟨_, rfl⟩
  have K3 := Lib.hid (show Kept [] W2 W3 by rw [hW3]; exact (Kept.refl _ _).alloc _)
  have hb3 := K3.out.obj hb2 (by simp)
  have hr3 : W3.heap[W2.heap.size]? = some (.mapIter (some b) c #[] c) := by rw [hW3]; exact alloc_new _ _
  have hlen := len210 b c #[] W2 hb2
  have hrng := range210 b c #[] W2 hb2
  rw [← hW3] at hrng
  have hnx := next210_none b W2.heap.size c c c #[] W3 hb3 hr3
  have hbl3 := heap_lt hb3
  have hl2 : q < W2.heap.size := cell_lt c2
  have hlt2 : w1.heap.size < W2.heap.size := cell_lt t0
  have hla2 : w1.heap.size + 1 < W2.heap.size := cell_lt a0
  have hlh2 : h < W2.heap.size := cell_lt c5
  have hbl2 := heap_lt hb2
  have d2 : W3.cell? ⟨q, 0, none⟩ = some .nilIface := (K3.out.cell hl2 (by simp)).trans c2
  have e2 : W3.frozen? ⟨q, 0, none⟩ = false := (K3.out.frozen hl2 (by simp)).trans f2
  have da : W3.cell? ⟨w1.heap.size + 1, 0, none⟩ = some (.slice none 0 0) := (K3.out.cell hla2 (by simp)).trans a0
  have db : W3.cell? ⟨w1.heap.size + 1, 1, none⟩ = some (.int .u8 1) := (K3.out.cell hla2 (by simp)).trans a1
  have ea : W3.frozen? ⟨w1.heap.size + 1, 0, none⟩ = false := (K3.out.frozen hla2 (by simp)).trans b0
  have hseta := setCell_id W3 _ _ da
  have hb3' := Lib.hid hb3
  have d5 : W3.cell? ⟨h, 5, none⟩ = some (.map (some b)) := (K3.out.cell hlh2 (by simp)).trans c5
  have hb2' := Lib.hid hb2
  clear hh2 hb2 hb3 hr3
  have hpb := hpa
  rw [hW2] at hpb
  go_wp2_with fail
  rw [← hW2]
  refine (lock68 _ _).mono ?_; rintro e w' ⟨rfl, rfl⟩
  clear hW2 c1 f1 hl1 hn1 hpb hW3
  go_wp2_with fail
  refine (reset97_nil _).mono ?_; rintro e w' ⟨rfl, rfl⟩
  go_wp2_with fail
  refine wp_loop_once ?_
  go_wp2_with fail
  refine leaves_cons (f := 69) (args := #[.pointer (some ⟨h, 6, none⟩)]) (by show ¬ (FrameMode.returning = FrameMode.run); intro h; cases h) (by simp [go_sem]) ?_
  refine (unlock69 _ .returning _).mono ?_
  rintro e u' w'' ⟨rfl, rfl, rfl⟩
  have hz : ∀ v, (W3.setCell ⟨q, 0, none⟩ v).cell? ⟨q, 0, none⟩ = some v := by intro v; go_simp
  refine ⟨_, results_tmp rfl _ _ _, rfl, .inl ⟨rfl, rfl, c, ?_⟩, ?_, hz _⟩
  · rw [Below.heap_setCell _ _ _ _ hqb.symm]; exact hb3'.out
  · exact ((K2.out.sub (by simp)).trans (K3.out.sub (by simp))).setCell (.inl (by simp)) _
end Go.Proofs.YtlpddogcnpokfaaGreat
