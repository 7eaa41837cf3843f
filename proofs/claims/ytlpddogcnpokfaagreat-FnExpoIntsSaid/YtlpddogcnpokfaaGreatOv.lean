/- The hash of written bytes: the words, one round, Sum64 of 36 bytes. zzOverflow: the mark of one attribute; some mark, old memory kept. -/
import Derived.Test.YtlpddogcnpokfaaGreatRec
import Derived.StillTailTactics
import Derived.LoopN
import Derived.Deep.RegionWith
import Derived.Test.YtlpddogcnpokfaaGreatEx1
import Derived.Test.YtlpddogcnpokfaaGreatCnt
import Derived.Lib.AppendStr
namespace Go.Proofs.YtlpddogcnpokfaaGreat
open Go.RowKit
/-- a word turned to the left -/
def rotV (x k : Int) : Int := bits .or .u64 (IntKind.u64.wrap (x * 2 ^ k.toNat)) (x / 2 ^ (64 - k).toNat)
theorem rot170 (x k : Int) (w : World) (h0 : 0 ≤ k) (h1 : k ≤ 63) (ha : bits .and .u64 k 63 = k) : Calls Tryz.prog 170 #[.int .u64 x, .int .i64 k] w fun e w' => e = .returned (.int .u64 (rotV x k)) ∧ w = w' := by
  go_enter Tryz.func170, Tryz.ntmps170
  go_wp2_with fail
  go_ret
  exact ⟨rfl, rfl⟩
def roundV (a i : Int) : Int := IntKind.u64.wrap (rotV (IntKind.u64.wrap (a + IntKind.u64.wrap (i * 14029467366897019727))) 31 * 11400714785074694791)
theorem rnd168 (a i : Int) (w : World) : Calls Tryz.prog 168 #[.int .u64 a, .int .u64 i] w fun e w' => e = .returned (.int .u64 (roundV a i)) ∧ w = w' := by
  go_enter Tryz.func168, Tryz.ntmps168
  go_wp2_with fail
  refine (rot170 _ 31 _ (by omega) (by omega) rfl).mono ?_; rintro e w' ⟨rfl, rfl⟩
  go_wp2_with fail
  go_ret
  exact ⟨rfl, rfl⟩
def mergeV (a v : Int) : Int := IntKind.u64.wrap (IntKind.u64.wrap (bits .xor .u64 a (roundV 0 v) * 11400714785074694791) + 9650029242287828579)
theorem mrg171 (a i : Int) (w : World) : Calls Tryz.prog 171 #[.int .u64 a, .int .u64 i] w fun e w' => e = .returned (.int .u64 (mergeV a i)) ∧ w = w' := by
  go_enter Tryz.func171, Tryz.ntmps171
  go_wp2_with fail
  refine (rnd168 _ _ _).mono ?_; rintro e w' ⟨rfl, rfl⟩
  go_wp2_with fail
  go_ret
  exact ⟨rfl, rfl⟩
theorem cell_blk {w : World} {a : Addr} {v : Value} (h : w.cell? a = some v) : a.block < w.heap.size := by
  unfold World.cell? at h
  rcases Nat.lt_or_ge a.block w.heap.size with h1 | h1
  · exact h1
  · rw [Array.getElem?_eq_none h1] at h; cases h
def leV (B : Nat → Int) : Int := (bits .or .u64 (bits .or .u64 (bits .or .u64 (bits .or .u64 (bits .or .u64 (bits .or .u64 (bits .or .u64 (IntKind.u64.wrap (B 0)) (IntKind.u64.wrap (IntKind.u64.wrap (B 1) * 256))) (IntKind.u64.wrap (IntKind.u64.wrap (B 2) * 65536))) (IntKind.u64.wrap (IntKind.u64.wrap (B 3) * 16777216))) (IntKind.u64.wrap (IntKind.u64.wrap (B 4) * 4294967296))) (IntKind.u64.wrap (IntKind.u64.wrap (B 5) * 1099511627776))) (IntKind.u64.wrap (IntKind.u64.wrap (B 6) * 281474976710656))) (IntKind.u64.wrap (IntKind.u64.wrap (B 7) * 72057594037927936)))
theorem le169 (g o : Nat) (n c : Nat) (B : Nat → Int) (w : World) (hn : (8 : Int) ≤ n) (hb : ∀ i, i < 8 → w.cell? ⟨g, o + i, none⟩ = some (.int .u8 (B i))) : Calls Tryz.prog 169 #[.agg #[], .slice (some ⟨g, o, none⟩) n c] w fun e w' => e = .returned (.int .u64 (leV B)) ∧ Kept [] w w' := by
  have hl : g < w.heap.size := cell_blk (hb 0 (by omega))
  have h0 : w.cell? ⟨g, o, none⟩ = some (.int .u8 (B 0)) := hb 0 (by omega)
  have h1 := hb 1 (by omega)
  have h2 := hb 2 (by omega)
  have h3 := hb 3 (by omega)
  have h4 := hb 4 (by omega)
  have h5 := hb 5 (by omega)
  have h6 := hb 6 (by omega)
  have h7 := hb 7 (by omega)
  have n0 : (0 : Int) < n := by omega
  have n1 : (1 : Int) < n := by omega
  have n2 : (2 : Int) < n := by omega
  have n3 : (3 : Int) < n := by omega
  have n4 : (4 : Int) < n := by omega
  have n5 : (5 : Int) < n := by omega
  have n6 : (6 : Int) < n := by omega
  have n7 : (7 : Int) < n := by omega
  clear hb hn
  go_enter Tryz.func169, Tryz.ntmps169
  go_wp2_with fail
  go_quiet (fail)
  (try simp only [Exit.then])
  go_wp2_with fail
  go_ret
  exact ⟨rfl, ((Kept.refl _ _).alloc _).dr ⟨_, rfl⟩⟩
def le4V (B : Nat → Int) : Int := (bits .or .u32 (bits .or .u32 (bits .or .u32 (IntKind.u32.wrap (B 0)) (IntKind.u32.wrap (IntKind.u32.wrap (B 1) * 256))) (IntKind.u32.wrap (IntKind.u32.wrap (B 2) * 65536))) (IntKind.u32.wrap (IntKind.u32.wrap (B 3) * 16777216)))
theorem le172 (g o : Nat) (n c : Nat) (B : Nat → Int) (w : World) (hn : (4 : Int) ≤ n) (hb : ∀ i, i < 4 → w.cell? ⟨g, o + i, none⟩ = some (.int .u8 (B i))) : Calls Tryz.prog 172 #[.agg #[], .slice (some ⟨g, o, none⟩) n c] w fun e w' => e = .returned (.int .u32 (le4V B)) ∧ Kept [] w w' := by
  have hl : g < w.heap.size := cell_blk (hb 0 (by omega))
  have h0 : w.cell? ⟨g, o, none⟩ = some (.int .u8 (B 0)) := hb 0 (by omega)
  have h1 := hb 1 (by omega)
  have h2 := hb 2 (by omega)
  have h3 := hb 3 (by omega)
  have n0 : (0 : Int) < n := by omega
  have n1 : (1 : Int) < n := by omega
  have n2 : (2 : Int) < n := by omega
  have n3 : (3 : Int) < n := by omega
  clear hb hn
  go_enter Tryz.func172, Tryz.ntmps172
  go_wp2_with fail
  go_quiet (fail)
  (try simp only [Exit.then])
  go_wp2_with fail
  go_ret
  exact ⟨rfl, ((Kept.refl _ _).alloc _).dr ⟨_, rfl⟩⟩
end Go.Proofs.YtlpddogcnpokfaaGreat
namespace Go.Proofs.YtlpddogcnpokfaaGreat
open Go.RowKit
/-- a digest's row of 36 bytes -/
structure Dg (w : World) (a : Addr) (g c : Nat) (B : Nat → Int) : Prop where
  hc : w.cell? a = some (.slice (some ⟨g, 0, none⟩) 36 c)
  hb : ∀ i, i < 36 → w.cell? ⟨g, i, none⟩ = some (.int .u8 (B i))
  cap : 36 ≤ c
theorem Dg.kept {w w' : World} {a : Addr} {g c : Nat} {B : Nat → Int} (h : Dg w a g c B) (hk : Kept [] w w') : Dg w' a g c B :=
  ⟨(World.cell?_of_block (hk.block _ (cell_blk h.hc) (by simp))).trans h.hc, fun i hi => (hk.cell (cell_blk (h.hb 0 (by omega))) (by simp)).trans (h.hb i hi), h.cap⟩
def SomeU (w : World) (e : Ending) (w' : World) : Prop := ∃ x : Int, e = .returned (.int .u64 x) ∧ Kept [] w w'
set_option maxRecDepth 100000 in
set_option maxHeartbeats 1000000 in
theorem sum36 (a : Addr) (g c : Nat) (B : Nat → Int) (w : World) (h : Dg w a g c B) : Calls Tryz.prog 151 #[.pointer (some a)] w (SomeU w) := by
  have hc := h.hc
  have HD := Lib.hid h
  have e8 : ¬ (c = 8) := by have := h.cap; omega
  have e16 : ¬ (c = 16) := by have := h.cap; omega
  have e24 : ¬ (c = 24) := by have := h.cap; omega
  have e32 : ¬ (c = 32) := by have := h.cap; omega
  clear h
  have HK := Lib.hid (Kept.refl [] w)
  go_enter Tryz.func151, Tryz.ntmps151
  go_wp2_with fail
  refine wp_loop_rounds 2 ?_
  rw [rounds_succ]
  go_wp2_with fail
  refine (le169 g 0 36 c B w (by decide) (fun i hi => by rw [Nat.zero_add]; exact HD.out.hb i (by omega))).mono ?_
  rintro e w1 ⟨rfl, hk1⟩
  replace HD := Lib.hid (HD.out.kept hk1)
  replace HK := Lib.hid (HK.out.trans hk1)
  clear hk1 hc
  go_wp2_with fail
  refine (rnd168 _ _ _).mono ?_
  rintro e w' ⟨rfl, rfl⟩
  go_wp2_with fail
  have HKd := Lib.hid (show Kept [] w1 w1.drew from (Kept.refl _ _).dr ⟨1, rfl⟩)
  have F8 := Lib.hid (fun (W : World) (hk : Kept [] w1 W) => le169 g 8 28 (c - 8) (fun i => B (8 + i)) W (by decide) (fun i hi => (HD.out.kept hk).hb (8 + i) (by omega)))
  have F16 := Lib.hid (fun (W : World) (hk : Kept [] w1 W) => le169 g 16 20 (c - 16) (fun i => B (16 + i)) W (by decide) (fun i hi => (HD.out.kept hk).hb (16 + i) (by omega)))
  have F24 := Lib.hid (fun (W : World) (hk : Kept [] w1 W) => le169 g 24 12 (c - 24) (fun i => B (24 + i)) W (by decide) (fun i hi => (HD.out.kept hk).hb (24 + i) (by omega)))
  go_region_with (first
    | (go_at_call 168; with_reducible refine (rnd168 _ _ _).mono ?_; rintro e w' ⟨rfl, rfl⟩)
    | (go_at_call 169; with_reducible refine (F8.out _ HKd.out).mono ?_; rintro e w2 ⟨rfl, hk2⟩))
  replace HK := Lib.hid (HK.out.trans (HKd.out.trans hk2))
  have HK2 := Lib.hid ((HKd.out.trans hk2).trans ((Kept.refl [] w2).dr ⟨1, rfl⟩) : Kept [] w1 w2.drew)
  clear hk2
  go_wp2_with fail
  go_region_with (first
    | (go_at_call 168; with_reducible refine (rnd168 _ _ _).mono ?_; rintro e w' ⟨rfl, rfl⟩)
    | (go_at_call 169; with_reducible refine (F16.out _ HK2.out).mono ?_; rintro e w3 ⟨rfl, hk2⟩))
  replace HK := Lib.hid (HK.out.trans (((Kept.refl [] w2).dr ⟨1, rfl⟩ : Kept [] w2 w2.drew).trans hk2))
  have HK3 := Lib.hid ((HK2.out.trans hk2).trans ((Kept.refl [] w3).dr ⟨1, rfl⟩) : Kept [] w1 w3.drew)
  clear hk2
  go_wp2_with fail
  go_region_with (first
    | (go_at_call 168; with_reducible refine (rnd168 _ _ _).mono ?_; rintro e w' ⟨rfl, rfl⟩)
    | (go_at_call 169; with_reducible refine (F24.out _ HK3.out).mono ?_; rintro e w4 ⟨rfl, hk2⟩))
  have HK4 := Lib.hid (HK3.out.trans hk2)
  replace HK := Lib.hid (HK.out.trans (((Kept.refl [] w3).dr ⟨1, rfl⟩ : Kept [] w3 w3.drew).trans hk2))
  replace HD := Lib.hid (HD.out.kept HK4.out)
  clear hk2 HK2 HK3 HK4 F8 F16 F24 HKd
  go_wp2_with fail
  rw [rounds_succ]
  go_wp2_with fail
  generalize roundV (IntKind.u64.wrap 25430182151971714518) (leV B) = r1
  generalize (roundV 14029467366897019727 (leV fun i => B (8 + i))) = r2
  generalize (roundV 0 (leV fun i => B (16 + i))) = r3
  generalize (roundV (IntKind.u64.wrap (-11400714785074694791)) (leV fun i => B (24 + i))) = r4
  refine (rot170 _ 1 _ (by omega) (by omega) rfl).mono ?_
  rintro e w' ⟨rfl, rfl⟩
  go_wp2_with fail
  refine (rot170 _ 7 _ (by omega) (by omega) rfl).mono ?_
  rintro e w' ⟨rfl, rfl⟩
  go_wp2_with fail
  refine (rot170 _ 12 _ (by omega) (by omega) rfl).mono ?_
  rintro e w' ⟨rfl, rfl⟩
  go_wp2_with fail
  refine (rot170 _ 18 _ (by omega) (by omega) rfl).mono ?_
  rintro e w' ⟨rfl, rfl⟩
  have hc4 := HD.out.hc
  go_wp2_with fail
  refine (mrg171 _ _ _).mono ?_
  rintro e w' ⟨rfl, rfl⟩
  go_wp2_with fail
  refine (mrg171 _ _ _).mono ?_
  rintro e w' ⟨rfl, rfl⟩
  go_wp2_with fail
  refine (mrg171 _ _ _).mono ?_
  rintro e w' ⟨rfl, rfl⟩
  go_wp2_with fail
  refine (mrg171 _ _ _).mono ?_
  rintro e w' ⟨rfl, rfl⟩
  go_wp2_with fail
  generalize mergeV _ _ = m4
  refine wp_loop_once ?_
  go_wp2_with fail
  refine (le172 g 32 4 (c - 32) (fun i => B (32 + i)) w4 (by decide) (fun i hi => HD.out.hb (32 + i) (by omega))).mono ?_
  rintro e w5 ⟨rfl, hk5⟩
  replace HK := Lib.hid (HK.out.trans hk5)
  go_wp2_with fail
  generalize (bits BinOp.xor IntKind.u64 (IntKind.u64.wrap (m4 + 36)) (IntKind.u64.wrap (IntKind.u64.wrap (le4V fun i => B (32 + i)) * 11400714785074694791))) = x5
  refine (rot170 _ 23 _ (by omega) (by omega) rfl).mono ?_
  rintro e w' ⟨rfl, rfl⟩
  go_wp2_with fail
  all_goals
    generalize rotV x5 23 = y5
    refine wp_loop_once ?_
    go_wp2_with fail
    go_ret
    exact ⟨_, rfl, HK.out⟩
end Go.Proofs.YtlpddogcnpokfaaGreat
namespace Go.Proofs.YtlpddogcnpokfaaGreat
open Go.RowKit
theorem info5 : ∃ i, Tryz.prog.info? 5 = some i ∧ i.zero = some (.int .u8 0) ∧ i.size = 1 ∧ i.bytes = 1 := by
  have h : (Tryz.prog.info? 5).map (fun i => (i.zero, i.size, i.bytes)) = some (some (.int .u8 0), 1, 1) := by kernel_rfl
  cases hi : Tryz.prog.info? 5 with
  | none => rw [hi] at h; cases h
  | some i => rw [hi] at h; simp only [Option.map_some, Option.some.injEq, Prod.mk.injEq] at h; exact ⟨i, rfl, h.1, h.2.1, h.2.2⟩
/-- a digest that holds so many bytes -/
structure DigAt (w : World) (g n : Nat) (og : Option Nat) : Prop where
  fr : w.frozen? ⟨g, 0, none⟩ = false
  row : ∃ v xs, w.cell? ⟨g, 0, none⟩ = some v ∧ w.ownsRow 0 5 1 v n xs ∧ v.ownBlock = og ∧ og ≠ some g ∧ ∀ u, u ∈ xs → ∃ b : Int, u = .int .u8 b
theorem DigAt.lt {w : World} {g n : Nat} {og : Option Nat} (h : DigAt w g n og) : ∀ i, i ∈ g :: og.toList → i < w.heap.size := by
  obtain ⟨v, xs, hc, ho, rfl, -, -⟩ := h.row
  intro i hi
  rcases List.mem_cons.1 hi with rfl | hi
  · exact cell_lt hc
  · cases hv : v.ownBlock with
    | none => rw [hv] at hi; simp at hi
    | some z => rw [hv] at hi; simp at hi; subst hi; exact (ho.lt _ hv).2
theorem DigAt.kept {w w' : World} {g n : Nat} {og : Option Nat} {S : List Nat} (h : DigAt w g n og) (hk : Kept S w w') (hS : ∀ i, i ∈ g :: og.toList → i ∉ S) : DigAt w' g n og := by
  have hl := h.lt
  obtain ⟨v, xs, hc, ho, rfl, hne, hb⟩ := h.row
  have hg : g < w.heap.size := cell_lt hc
  refine ⟨(hk.frozen hg (hS g (by simp))).trans h.fr, v, xs, (hk.cell hg (hS g (by simp))).trans hc, own_keptK ho hk (fun z hz => hS z (by rw [hz]; simp)), rfl, hne, hb⟩
/-- what a write leaves -/
def WrPost (w : World) (g n : Nat) (og : Option Nat) (w' : World) : Prop := ∃ og', DigAt w' g n og' ∧ Kept (g :: og.toList) w w' ∧ ∀ z, og' = some z → og = some z ∨ w.heap.size ≤ z
/-- the store of the grown row -/
theorem WrPost.mk' {w w1 : World} {g m : Nat} {v v' : Value} {xs : List Value} (hg : g < w.heap.size) (hfr : w.frozen? ⟨g, 0, none⟩ = false) (hne : v.ownBlock ≠ some g) (ho : w1.ownsRow 0 5 1 v' m xs) (hgr : w.grownBy w1 v.ownBlock) (hat : ∀ z, v'.ownBlock = some z → v.ownBlock = some z ∨ w.heap.size ≤ z) (hb : ∀ u, u ∈ xs → ∃ b : Int, u = .int .u8 b)
    (hc : (w1.cell? ⟨g, 0, none⟩).isSome = true) : WrPost w g m v.ownBlock (w1.setCell ⟨g, 0, none⟩ v') := by
  have hne' : v'.ownBlock ≠ some g := by
    intro e
    rcases hat g e with h | h
    · exact hne h
    · omega
  have hk := grownBy_kept hgr
  have hg1 : g < w1.heap.size := Nat.lt_of_lt_of_le hg hgr.size
  refine ⟨v'.ownBlock, ⟨?_, v', xs, ?_, ?_, rfl, hne', hb⟩, ?_, ?_⟩
  · rw [World.frozen?_setCell]
    exact (hk.frozen hg (by simpa using hne)).trans hfr
  · exact World.cell?_setCell_same' _ _ _ hc
  · exact own_keptK ho ((Kept.refl [g] w1).setCell (.inl (by simp)) v') (fun z hz e => by simp at e; subst e; exact hne' hz)
  · exact ((hk.mono (fun k hm => .inl (List.mem_cons_of_mem _ hm)))).setCell (.inl (by simp)) v'
  · exact hat
end Go.Proofs.YtlpddogcnpokfaaGreat
namespace Go.Proofs.YtlpddogcnpokfaaGreat
open Go.RowKit
theorem own_shp {w : World} {base : Nat} {e : TypeId} {k : Nat} {v : Value} {n : Nat} {xs : List Value} (h : w.ownsRow base e k v n xs) : ∃ ad m cap, v = .slice ad m cap := by
  rcases h.2 with ⟨h1, h0⟩ | ⟨g, cap, cur, hv, _⟩
  · exact ⟨none, 0, 0, h1⟩
  · exact ⟨_, _, _, hv⟩
theorem own_m0 {w : World} {base : Nat} {e : TypeId} {k : Nat} {v : Value} {n : Nat} {xs : List Value} (h : w.ownsRow base e k v n xs) : w.ownsRow 0 e k v n xs := ⟨h.1, h.2.imp id fun ⟨g, cap, cur, a, _, c⟩ => ⟨g, cap, cur, a, Nat.zero_le _, c⟩⟩
def TupPost (w : World) (g n : Nat) (og : Option Nat) (e : Ending) (w' : World) : Prop := ∃ k : Int, e = .returned (.tuple #[.int .i64 k, .nilIface]) ∧ WrPost w g n og w'
theorem strCells_u8 (s : ByteArray) : ∀ u, u ∈ Lib.strCells s → ∃ b : Int, u = .int .u8 b := by
  intro u hu
  unfold Lib.strCells at hu
  obtain ⟨x, _, rfl⟩ := List.mem_map.1 hu
  exact ⟨_, rfl⟩
set_option maxRecDepth 100000 in
theorem wrs162 (g : Nat) (s : ByteArray) (w : World) (hc : w.cell? ⟨g, 0, none⟩ = some (.slice none 0 0)) (hfr : w.frozen? ⟨g, 0, none⟩ = false) (hs : s.size ≤ 1000) :
    Calls Tryz.prog 162 #[.pointer (some ⟨g, 0, none⟩), .string s] w (TupPost w g s.size none) := by
  have hl : g < w.heap.size := cell_lt hc
  obtain ⟨i0, hi, hz0, hz1, hz2⟩ := info5
  have HI := Lib.hid (And.intro hi (And.intro hz0 (And.intro hz1 hz2)))
  have HF := Lib.hid (And.intro hl (And.intro hfr hs))
  clear hi hz0 hz1 hz2 hs
  go_enter Tryz.func162, Tryz.ntmps162
  go_wp2_with (at_builtin; refine Lib.wpList_append_own_string _ rfl _ _ 279 9 rfl w.heap.size 5 i0 Tryz.underlying279 Tryz.underlying9 HI.out.1 HI.out.2.1 HI.out.2.2.1 HI.out.2.2.2 (.slice none 0 0) 0 [] rfl (World.ownsRow_nil w _ 5 1) s rfl (by have := HF.out.2.2; unfold maxLen; omega) (by have := HF.out.2.2; omega) (Nat.le_refl _) ?_; intro v' w1 hown hgr hnil; rw [Nat.zero_add, List.nil_append] at hown; change w.grownBy w1 none at hgr; have hk1 : Kept [] w w1 := grownBy_kept hgr; have d0 := (hk1.cell hl (by simp)).trans hc; have g0 := (hk1.frozen hl (by simp)).trans hfr; obtain ⟨ad, m, cap, rfl⟩ := own_shp hown; have HO := Lib.hid (And.intro hown (And.intro hgr hnil)); clear hown hgr hnil hk1)
  go_ret2
  refine ⟨_, rfl, WrPost.mk' (v := .slice none 0 0) HF.out.1 HF.out.2.1 (by simp [Value.ownBlock]) (own_m0 HO.out.1) HO.out.2.1 ?_ (strCells_u8 s) (by rw [d0]; rfl)⟩
  intro z hz
  rcases HO.out.1.2 with ⟨h, _⟩ | ⟨b, cap', cur, h, hb, _⟩
  · rw [h] at hz; cases hz
  · rw [h] at hz; injection hz with hz; subst hz; exact .inr hb
end Go.Proofs.YtlpddogcnpokfaaGreat
namespace Go.Proofs.YtlpddogcnpokfaaGreat
open Go.RowKit Go.Maps
/-- eight bytes of a block -/
def B8 (w : World) (b : Nat) : Prop := ∃ B : Nat → Int, ∀ i, i < 8 → w.cell? ⟨b, i, none⟩ = some (.int .u8 (B i))
theorem put179 (b : Nat) (x : Int) (w : World) (hw : w.heap[b]? = some (.cells #[.int .u8 0, .int .u8 0, .int .u8 0, .int .u8 0, .int .u8 0, .int .u8 0, .int .u8 0, .int .u8 0] 307 (0, 0))) :
    Calls Tryz.prog 179 #[.agg #[], .slice (some ⟨b, 0, none⟩) 8 8, .int .u64 x] w fun e w' => e = .returned (.tuple #[]) ∧ B8 w' b ∧ Kept [b] w w' := by
  have c0 : w.cell? ⟨b, 0, none⟩ = some (.int .u8 0) := cellOf hw (by rfl)
  have c1 : w.cell? ⟨b, 1, none⟩ = some (.int .u8 0) := cellOf hw (by rfl)
  have c2 : w.cell? ⟨b, 2, none⟩ = some (.int .u8 0) := cellOf hw (by rfl)
  have c3 : w.cell? ⟨b, 3, none⟩ = some (.int .u8 0) := cellOf hw (by rfl)
  have c4 : w.cell? ⟨b, 4, none⟩ = some (.int .u8 0) := cellOf hw (by rfl)
  have c5 : w.cell? ⟨b, 5, none⟩ = some (.int .u8 0) := cellOf hw (by rfl)
  have c6 : w.cell? ⟨b, 6, none⟩ = some (.int .u8 0) := cellOf hw (by rfl)
  have c7 : w.cell? ⟨b, 7, none⟩ = some (.int .u8 0) := cellOf hw (by rfl)
  have f0 : w.frozen? ⟨b, 0, none⟩ = false := frOf hw
  have f1 : w.frozen? ⟨b, 1, none⟩ = false := frOf hw
  have f2 : w.frozen? ⟨b, 2, none⟩ = false := frOf hw
  have f3 : w.frozen? ⟨b, 3, none⟩ = false := frOf hw
  have f4 : w.frozen? ⟨b, 4, none⟩ = false := frOf hw
  have f5 : w.frozen? ⟨b, 5, none⟩ = false := frOf hw
  have f6 : w.frozen? ⟨b, 6, none⟩ = false := frOf hw
  have f7 : w.frozen? ⟨b, 7, none⟩ = false := frOf hw
  have hl : b < w.heap.size := cell_lt c0
  have hne : b ≠ w.heap.size := by omega
  go_enter Tryz.func179, Tryz.ntmps179
  go_wp2_with fail
  have hB : B8 ((((((((w.setCell ⟨b, 0, none⟩ (.int .u8 (x % 256))).setCell ⟨b, 1, none⟩ (.int .u8 (x / 256 % 256))).setCell ⟨b, 2, none⟩ (.int .u8 (x / 65536 % 256))).setCell ⟨b, 3, none⟩ (.int .u8 (x / 16777216 % 256))).setCell ⟨b, 4, none⟩ (.int .u8 (x / 4294967296 % 256))).setCell ⟨b, 5, none⟩ (.int .u8 (x / 1099511627776 % 256))).setCell ⟨b, 6, none⟩ (.int .u8 (x / 281474976710656 % 256))).setCell ⟨b, 7, none⟩ (.int .u8 (x / 72057594037927936 % 256))) b := by
    refine ⟨fun i => match i with | 0 => x % 256 | 1 => x / 256 % 256 | 2 => x / 65536 % 256 | 3 => x / 16777216 % 256 | 4 => x / 4294967296 % 256 | 5 => x / 1099511627776 % 256 | 6 => x / 281474976710656 % 256 | _ => x / 72057594037927936 % 256, ?_⟩
    intro i hi
    match i, hi with
    | 0, _ => go_simp
    | 1, _ => go_simp
    | 2, _ => go_simp
    | 3, _ => go_simp
    | 4, _ => go_simp
    | 5, _ => go_simp
    | 6, _ => go_simp
    | 7, _ => go_simp
  have hB := Lib.hid hB
  have hm : b ∈ [b] := by simp
  have hK := Lib.hid (((((((((Kept.refl [b] w).setCell (p := ⟨b, 0, none⟩) (.inl hm) (.int .u8 (x % 256))).setCell (p := ⟨b, 1, none⟩) (.inl hm) (.int .u8 (x / 256 % 256))).setCell (p := ⟨b, 2, none⟩) (.inl hm) (.int .u8 (x / 65536 % 256))).setCell (p := ⟨b, 3, none⟩) (.inl hm) (.int .u8 (x / 16777216 % 256))).setCell (p := ⟨b, 4, none⟩) (.inl hm) (.int .u8 (x / 4294967296 % 256))).setCell (p := ⟨b, 5, none⟩) (.inl hm) (.int .u8 (x / 1099511627776 % 256))).setCell (p := ⟨b, 6, none⟩) (.inl hm) (.int .u8 (x / 281474976710656 % 256))).setCell (p := ⟨b, 7, none⟩) (.inl hm) (.int .u8 (x / 72057594037927936 % 256)))
  have hsz : b < (((((((w.setCell ⟨b, 0, none⟩ (.int .u8 (x % 256))).setCell ⟨b, 1, none⟩ (.int .u8 (x / 256 % 256))).setCell ⟨b, 2, none⟩ (.int .u8 (x / 65536 % 256))).setCell ⟨b, 3, none⟩ (.int .u8 (x / 16777216 % 256))).setCell ⟨b, 4, none⟩ (.int .u8 (x / 4294967296 % 256))).setCell ⟨b, 5, none⟩ (.int .u8 (x / 1099511627776 % 256))).setCell ⟨b, 6, none⟩ (.int .u8 (x / 281474976710656 % 256))).heap.size := by simpa using hl
  have hsz := Lib.hid hsz
  refine bodyPost_end (results_none rfl _ _ _) rfl ⟨rfl, ?_, hK.out.alloc _⟩
  obtain ⟨B, hBB⟩ := hB.out
  refine ⟨B, fun i hi => ?_⟩
  have := hBB i hi
  exact (World.cell?_alloc_lt _ _ _ (cell_lt this)).trans this
end Go.Proofs.YtlpddogcnpokfaaGreat
namespace Go.Proofs.YtlpddogcnpokfaaGreat
open Go.RowKit Go.Maps
theorem range8 (B : Nat → Int) : ∀ u, u ∈ (List.range 8).map (fun i => Value.int .u8 (B i)) → ∃ b : Int, u = .int .u8 b := by
  intro u hu
  obtain ⟨i, _, rfl⟩ := List.mem_map.1 hu
  exact ⟨_, rfl⟩
set_option maxRecDepth 100000 in
theorem wr180 (g n b : Nat) (og : Option Nat) (w : World) (h : DigAt w g n og) (hb : B8 w b) (hn : n ≤ 1000) :
    Calls Tryz.prog 180 #[.pointer (some ⟨g, 0, none⟩), .slice (some ⟨b, 0, none⟩) 8 8] w (TupPost w g (n + 8) og) := by
  have hl : g < w.heap.size := h.lt g (by simp)
  have hfr := h.fr
  obtain ⟨v, xs, hc, ho, rfl, hne, hu8⟩ := h.row
  obtain ⟨ad, m, cap, rfl⟩ := own_shp ho
  obtain ⟨B, hB⟩ := hb
  obtain ⟨N8, hN⟩ : ∃ N8 : List Value, N8.length = 8 * 1 ∧ (∀ (j : Nat) (u : Value), N8[j]? = some u → w.cell? (Addr.add ⟨b, 0, none⟩ j) = some u) ∧ ∀ u, u ∈ N8 → ∃ c : Int, u = .int .u8 c := by
    refine ⟨(List.range 8).map fun i => .int .u8 (B i), by simp, ?_, range8 B⟩
    intro j u hj
    rw [List.getElem?_map] at hj
    rcases Nat.lt_or_ge j 8 with h8 | h8
    · rw [List.getElem?_range h8] at hj
      injection hj with hj; subst hj
      rw [add0]; exact hB j h8
    · rw [List.getElem?_eq_none (by simpa using h8)] at hj; cases hj
  obtain ⟨i0, hi, hz0, hz1, hz2⟩ := info5
  have HI := Lib.hid (And.intro hi (And.intro hz0 (And.intro hz1 hz2)))
  have HF := Lib.hid (And.intro hl (And.intro hfr (And.intro hn (And.intro ho (And.intro hne (And.intro hu8 hN))))))
  have hnk : g ∉ (Value.slice ad m cap).ownBlock.toList := fun hm => by
    cases he : (Value.slice ad m cap).ownBlock with
    | none => rw [he] at hm; simp at hm
    | some z => rw [he] at hm; simp at hm; subst hm; exact hne he
  have HNK := Lib.hid hnk
  clear hi hz0 hz1 hz2 hn ho hne hu8 hB h hN hnk
  have fin : ∀ v' w', w'.ownsRow 0 5 1 v' (n + 8) (xs ++ N8) → w.grownBy w' (Value.slice ad m cap).ownBlock → (v'.ownBlock = (Value.slice ad m cap).ownBlock ∨ v'.ownBlock = some w.heap.size) → WrPost w g (n + 8) (Value.slice ad m cap).ownBlock (w'.setCell ⟨g, 0, none⟩ v') := by
    intro v' w' h1 h2 h3
    refine WrPost.mk' (v := .slice ad m cap) HF.out.1 HF.out.2.1 HF.out.2.2.2.2.1 h1 h2 ?_ ?_ (by rw [(grownBy_kept h2).cell HF.out.1 HNK.out, hc]; rfl)
    · intro z hz
      rcases h3 with h | h
      · exact .inl (h ▸ hz)
      · right; rw [h] at hz; injection hz with hz; omega
    · intro u hu
      rcases List.mem_append.1 hu with hu | hu
      · exact HF.out.2.2.2.2.2.1 u hu
      · exact HF.out.2.2.2.2.2.2.2.2 u hu
  have FIN := Lib.hid fin
  clear fin
  go_enter Tryz.func180, Tryz.ntmps180
  go_wp2_with (at_builtin; refine wpList_append_own_at _ rfl _ _ 279 rfl 0 5 i0 (.int .u8 0) 1 1 Tryz.underlying279 HI.out.1 HI.out.2.1 HI.out.2.2.1 HI.out.2.2.2 rfl (by decide) _ n xs rfl HF.out.2.2.2.1 ⟨b, 0, none⟩ 8 8 N8 rfl HF.out.2.2.2.2.2.2.1 HF.out.2.2.2.2.2.2.2.1 (fun u hu => by obtain ⟨c, rfl⟩ := HF.out.2.2.2.2.2.2.2.2 u hu; rfl) (by have := HF.out.2.2.1; unfold maxLen; omega) (by have := HF.out.2.2.1; omega) (Nat.zero_le _) ?_; intro v' w1 hown hgr hnil hat; have hk1 := grownBy_kept hgr; have d0 := (hk1.cell HF.out.1 HNK.out).trans hc; have g0 := (hk1.frozen HF.out.1 HNK.out).trans HF.out.2.1; have HX := Lib.hid (FIN.out v' w1 hown hgr hat); obtain ⟨ad1, m1, cap1, rfl⟩ := own_shp hown; clear hown hgr hnil hk1 hat FIN)
  go_ret2
  exact ⟨_, rfl, HX.out⟩
end Go.Proofs.YtlpddogcnpokfaaGreat
namespace Go.Proofs.YtlpddogcnpokfaaGreat
open Go.RowKit Go.Maps
/-- a hash's value: its digest -/
def hV (g : Nat) : Value := .agg #[.pointer (some ⟨g, 0, none⟩)]
def HashPost (w : World) (g n : Nat) (og : Option Nat) (e : Ending) (w' : World) : Prop := e = .returned (hV g) ∧ WrPost w g n og w'
theorem u164 (g n : Nat) (x : Int) (og : Option Nat) (w : World) (h : DigAt w g n og) (hn : n ≤ 1000) :
    Calls Tryz.prog 164 #[hV g, .int .u64 x] w (HashPost w g (n + 8) og) := by
  unfold hV
  obtain ⟨W3, hW⟩ : ∃ W, W = ((w.alloc (.cells #[.pointer (some ⟨g, 0, none⟩)] 252)).alloc (.cells #[.pointer none] 252)).alloc (.cells #[.int .u8 0, .int .u8 0, .int .u8 0, .int .u8 0, .int .u8 0, .int .u8 0, .int .u8 0, .int .u8 0] 307) := ⟨_, rfl⟩
  have hk3 : Kept [] w W3 := by rw [hW]; exact (((Kept.refl _ _).alloc _).alloc _).alloc _
  have hs3 : W3.heap.size = w.heap.size + 3 := by rw [hW]; simp
  have c0 : W3.cell? ⟨w.heap.size, 0, none⟩ = some (.pointer (some ⟨g, 0, none⟩)) := by rw [hW]; go_simp
  have c1 : W3.cell? ⟨w.heap.size + 1, 0, none⟩ = some (.pointer none) := by rw [hW]; go_simp
  have f1 : W3.frozen? ⟨w.heap.size + 1, 0, none⟩ = false := by rw [hW]; go_simp
  have hh : W3.heap[w.heap.size + 2]? = some (.cells #[.int .u8 0, .int .u8 0, .int .u8 0, .int .u8 0, .int .u8 0, .int .u8 0, .int .u8 0, .int .u8 0] 307 (0, 0)) := by
    rw [hW]
    have := (MapKept.heap_alloc ((w.alloc (.cells #[.pointer (some ⟨g, 0, none⟩)] 252)).alloc (.cells #[.pointer none] 252)) (.cells #[.int .u8 0, .int .u8 0, .int .u8 0, .int .u8 0, .int .u8 0, .int .u8 0, .int .u8 0, .int .u8 0] 307)).1
    simpa using this
  have H3 := Lib.hid (And.intro hk3 (And.intro hs3 hh))
  have HH := Lib.hid (And.intro h hn)
  clear hk3 hs3 hh h hn
  go_enter Tryz.func164, Tryz.ntmps164
  go_wp2_with fail
  rw [← hW]
  clear hW
  have F := Lib.hid (put179 (w.heap.size + 1 + 1) x W3.drew H3.out.2.2)
  go_region_with (go_at_call 179; with_reducible refine F.out.mono ?_; rintro e w1 ⟨rfl, hb1, hk1⟩)
  have hs := H3.out.2.1
  have hk31 : Kept [w.heap.size + 1 + 1] W3 w1 := ((Kept.refl _ W3).dr ⟨1, rfl⟩ : Kept [w.heap.size + 1 + 1] W3 W3.drew).trans hk1
  have hk01 : Kept [] w w1 := H3.out.1.trans2 hk31 (fun i hi => .inr (by simp at hi; omega))
  have hd1 : DigAt w1 g n og := HH.out.1.kept hk01 (fun i _ => by simp)
  have e0 := (hk31.cell (k := w.heap.size) (i := 0) (by omega) (by simp; try omega)).trans c0
  have e1 := (hk31.cell (k := w.heap.size + 1) (i := 0) (by omega) (by simp; try omega)).trans c1
  have g1 := (hk31.frozen (k := w.heap.size + 1) (i := 0) (by omega) (by simp; try omega)).trans f1
  have hlt := HH.out.1.lt
  have hs31 := hk31.size
  have H1 := Lib.hid (And.intro hk01 (And.intro hlt (And.intro hs hs31)))
  have F2 := Lib.hid (wr180 g n (w.heap.size + 1 + 1) og w1.drew ⟨hd1.fr, hd1.row⟩ hb1 HH.out.2)
  clear hk31 hk01 hd1 hlt hs31 hs c0 c1 f1 H3 F hb1 hk1
  go_wp2_with fail
  go_region_with (go_at_call 180; refine F2.out.mono ?_; rintro e w2 ⟨k, rfl, og', hd2, hk2, hog⟩)
  have hk2' : Kept (g :: og.toList) w1 w2 := ((Kept.refl _ w1).dr ⟨1, rfl⟩).trans hk2
  have hno : ∀ j, w.heap.size ≤ j → j ∉ g :: og.toList := fun j hj hm => by have := H1.out.2.1 j hm; omega
  have sz := H1.out.2.2
  have q0 := (hk2'.cell (k := w.heap.size) (i := 0) (by omega) (hno _ (Nat.le_refl _))).trans e0
  have q1 := (hk2'.cell (k := w.heap.size + 1) (i := 0) (by omega) (hno _ (by omega))).trans e1
  have q2 := (hk2'.frozen (k := w.heap.size + 1) (i := 0) (by omega) (hno _ (by omega))).trans g1
  have sz2 := hk2'.size
  have HP := Lib.hid (show WrPost w g (n + 8) og (w2.setCell ⟨w.heap.size + 1, 0, none⟩ (.pointer (some ⟨g, 0, none⟩))) from
    ⟨og', hd2.kept ((Kept.refl [w.heap.size + 1] w2).setCell (.inl (by simp)) _) (fun i hi => by
        have hlt := H1.out.2.1
        have : i ≠ w.heap.size + 1 := by
          rcases List.mem_cons.1 hi with rfl | hi
          · have := hlt i (by simp); omega
          · cases og' with
            | none => simp at hi
            | some z =>
              simp at hi; subst hi
              rcases hog i rfl with h | h
              · have := hlt i (by rw [h]; simp); omega
              · have h : w1.heap.size ≤ i := h
                omega
        simpa using this),
      ((H1.out.1.mono (fun i hi => by simp at hi)).trans hk2' : Kept (g :: og.toList) w w2).setCell (.inr (Nat.le_succ _)) _,
      fun z hz => (hog z hz).imp id fun h => Nat.le_trans H1.out.1.size h⟩)
  have q3 : (w2.setCell ⟨w.heap.size + 1, 0, none⟩ (.pointer (some ⟨g, 0, none⟩))).cell? ⟨w.heap.size + 1, 0, none⟩ = some (.pointer (some ⟨g, 0, none⟩)) := World.cell?_setCell_same' _ _ _ (by rw [q1]; rfl)
  clear hk2' hno sz sz2 hd2 hk2 hog H1 F2 e0 e1 g1
  go_wp2_with fail
  (try simp only [Exit.inBlock, Exit.then])
  refine bodyPost_ret (by simp [results, Tryz.results164, go_sem, q3]; rfl) rfl ?_
  exact ⟨rfl, HP.out⟩
end Go.Proofs.YtlpddogcnpokfaaGreat
namespace Go.Proofs.YtlpddogcnpokfaaGreat
open Go.RowKit Go.Maps
/-- an empty digest -/
def Dig0 (w : World) (g : Nat) : Prop := w.cell? ⟨g, 0, none⟩ = some (.slice none 0 0) ∧ w.frozen? ⟨g, 0, none⟩ = false
theorem Dig0.kept {w w' : World} {g : Nat} (h : Dig0 w g) (hk : Kept [] w w') : Dig0 w' g := ⟨(hk.cell (cell_lt h.1) (by simp)).trans h.1, (hk.frozen (cell_lt h.1) (by simp)).trans h.2⟩
theorem WrPost.store {w w1 w2 : World} {g n : Nat} {og : Option Nat} {S : List Nat} (hk : Kept S w w1) (hS : S = []) (hlt : ∀ i, i ∈ g :: og.toList → i < w.heap.size) (h : WrPost w1 g n og w2) {b : Nat} (hb : w.heap.size ≤ b) (hb1 : b < w1.heap.size) (v : Value) :
    WrPost w g n og (w2.setCell ⟨b, 0, none⟩ v) := by
  subst hS
  obtain ⟨og', hd, hk2, hog⟩ := h
  refine ⟨og', hd.kept ((Kept.refl [b] w2).setCell (.inl (by simp)) _) (fun i hi => ?_), ((hk.mono (fun i hi => by simp at hi)).trans hk2).setCell (.inr hb) _, fun z hz => (hog z hz).imp id fun h => Nat.le_trans hk.size h⟩
  have : i ≠ b := by
    rcases List.mem_cons.1 hi with rfl | hi
    · have := hlt i (by simp); omega
    · cases og' with
      | none => simp at hi
      | some z =>
        simp at hi; subst hi
        rcases hog i rfl with h | h
        · have := hlt i (by rw [h]; simp); omega
        · omega
  simpa using this
theorem str149 (g : Nat) (s : ByteArray) (w : World) (h : Dig0 w g) (hs : s.size ≤ 1000) :
    Calls Tryz.prog 149 #[hV g, .string s] w (HashPost w g s.size none) := by
  unfold hV
  obtain ⟨W3, hW⟩ : ∃ W, W = ((w.alloc (.cells #[.pointer (some ⟨g, 0, none⟩)] 252)).alloc (.cells #[.pointer none] 252)) := ⟨_, rfl⟩
  have hl : g < w.heap.size := cell_lt h.1
  have hk3 : Kept [] w W3 := by rw [hW]; exact ((Kept.refl _ _).alloc _).alloc _
  have hs3 : W3.heap.size = w.heap.size + 2 := by rw [hW]; simp
  have c0 : W3.cell? ⟨w.heap.size, 0, none⟩ = some (.pointer (some ⟨g, 0, none⟩)) := by rw [hW]; go_simp
  have c1 : W3.cell? ⟨w.heap.size + 1, 0, none⟩ = some (.pointer none) := by rw [hW]; go_simp
  have f1 : W3.frozen? ⟨w.heap.size + 1, 0, none⟩ = false := by rw [hW]; go_simp
  have H3 := Lib.hid (And.intro hk3 (And.intro hs3 hl))
  have HH := Lib.hid (h.kept hk3)
  clear hk3 hs3 hl h
  go_enter Tryz.func149, Tryz.ntmps149
  go_wp2_with fail
  rw [← hW]
  clear hW
  refine (wrs162 g s W3 HH.out.1 HH.out.2 hs).mono ?_
  rintro e w2 ⟨k, rfl, hp⟩
  have hk2 : Kept [g] W3 w2 := by obtain ⟨og', -, hk, -⟩ := hp; exact hk
  have hs := H3.out.2
  have q0 := (hk2.cell (k := w.heap.size) (i := 0) (by omega) (by simp; omega)).trans c0
  have q1 := (hk2.cell (k := w.heap.size + 1) (i := 0) (by omega) (by simp; omega)).trans c1
  have q2 := (hk2.frozen (k := w.heap.size + 1) (i := 0) (by omega) (by simp; omega)).trans f1
  have HP := Lib.hid (WrPost.store H3.out.1 rfl (fun i hi => by simp at hi; omega) hp (Nat.le_succ _) (by omega) (.pointer (some ⟨g, 0, none⟩)))
  have q3 : (w2.setCell ⟨w.heap.size + 1, 0, none⟩ (.pointer (some ⟨g, 0, none⟩))).cell? ⟨w.heap.size + 1, 0, none⟩ = some (.pointer (some ⟨g, 0, none⟩)) := World.cell?_setCell_same' _ _ _ (by rw [q1]; rfl)
  clear hk2 hp hs H3 c0 c1 f1
  go_wp2_with fail
  (try simp only [Exit.inBlock, Exit.then])
  refine bodyPost_ret (by simp [results, Tryz.results149, go_sem, q3]; rfl) rfl ?_
  exact ⟨rfl, HP.out⟩
theorem typ163 (a b c : Value) (w : World) : Calls Tryz.prog 163 #[.agg #[.int .i64 1, a, b, c]] w fun e w' => e = .returned (.int .i64 1) ∧ Kept [] w w' := by
  go_enter Tryz.func163, Tryz.ntmps163
  go_wp2_with fail
  go_ret
  exact ⟨rfl, (Kept.refl _ _).alloc _⟩
theorem notin {N M g : Nat} {og og' : Option Nat} (hlt : ∀ i, i ∈ g :: og.toList → i < N) (hog : ∀ z, og' = some z → og = some z ∨ M ≤ z) (j : Nat) (h1 : N ≤ j) (h2 : j < M) : j ∉ g :: og'.toList := by
  intro hm
  rcases List.mem_cons.1 hm with rfl | hi
  · have := hlt j (by simp); omega
  · cases og' with
    | none => simp at hi
    | some z =>
      simp at hi; subst hi
      rcases hog j rfl with h | h
      · have := hlt j (by rw [h]; simp); omega
      · omega
theorem DigAt.far {w : World} {g n : Nat} {og : Option Nat} (h : DigAt w g n og) {b : Nat} (hb : b ∉ g :: og.toList) (v : Value) : DigAt (w.setCell ⟨b, 0, none⟩ v) g n og :=
  h.kept ((Kept.refl [b] w).setCell (.inl (by simp)) _) (fun i hi e => by simp at e; subst e; exact hb hi)
set_option maxHeartbeats 1000000 in
set_option maxRecDepth 100000 in
theorem hash150 (g n : Nat) (x : Int) (s : ByteArray) (og : Option Nat) (w : World) (h : DigAt w g n og) (hn : n ≤ 900) :
    Calls Tryz.prog 150 #[hV g, .agg #[.int .i64 1, .int .u64 x, .string s, .nilIface]] w (HashPost w g (n + 16) og) := by
  obtain ⟨W3, hW⟩ : ∃ W, W = ((w.alloc (.cells #[.pointer (some ⟨g, 0, none⟩)] 252)).alloc (.cells #[.int .i64 1, .int .u64 x, .string s, .nilIface] 195)).alloc (.cells #[.pointer none] 252) := ⟨_, rfl⟩
  have hk3 : Kept [] w W3 := by rw [hW]; exact (((Kept.refl _ _).alloc _).alloc _).alloc _
  have hs3 : W3.heap.size = w.heap.size + 3 := by rw [hW]; simp
  have c0 : W3.cell? ⟨w.heap.size, 0, none⟩ = some (.pointer (some ⟨g, 0, none⟩)) := by rw [hW]; go_simp
  have f0 : W3.frozen? ⟨w.heap.size, 0, none⟩ = false := by rw [hW]; go_simp
  have k0 : W3.cell? ⟨w.heap.size + 1, 0, none⟩ = some (.int .i64 1) := by rw [hW]; go_simp
  have k1 : W3.cell? ⟨w.heap.size + 1, 1, none⟩ = some (.int .u64 x) := by rw [hW]; go_simp
  have k2 : W3.cell? ⟨w.heap.size + 1, 2, none⟩ = some (.string s) := by rw [hW]; go_simp
  have k3 : W3.cell? ⟨w.heap.size + 1, 3, none⟩ = some .nilIface := by rw [hW]; go_simp
  have c2 : W3.cell? ⟨w.heap.size + 1 + 1, 0, none⟩ = some (.pointer none) := by rw [hW]; go_simp
  have f2 : W3.frozen? ⟨w.heap.size + 1 + 1, 0, none⟩ = false := by rw [hW]; go_simp
  have H3 := Lib.hid (And.intro hk3 (And.intro hs3 h.lt))
  have HH := Lib.hid (And.intro h hn)
  clear hk3 hs3 h hn
  unfold hV
  go_enter Tryz.func150, Tryz.ntmps150
  go_wp2_with fail
  rw [← hW]
  clear hW
  refine (typ163 _ _ _ W3).mono ?_
  rintro e w1 ⟨rfl, hk1⟩
  have hs := H3.out.2.1
  replace c0 := (hk1.cell (k := w.heap.size) (i := 0) (by omega) (by simp)).trans c0
  replace f0 := (hk1.frozen (k := w.heap.size) (i := 0) (by omega) (by simp)).trans f0
  replace k1 := (hk1.cell (k := w.heap.size + 1) (i := 1) (by omega) (by simp)).trans k1
  replace c2 := (hk1.cell (k := w.heap.size + 1 + 1) (i := 0) (by omega) (by simp)).trans c2
  replace f2 := (hk1.frozen (k := w.heap.size + 1 + 1) (i := 0) (by omega) (by simp)).trans f2
  have hs1 : w.heap.size + 3 ≤ w1.heap.size := by have := hk1.size; omega
  have H1 := Lib.hid (And.intro (H3.out.1.trans hk1) (And.intro hs1 H3.out.2.2))
  clear k0 k2 k3 hk1 hs hs1 H3
  go_wp2_with fail
  refine (u164 g n 7953749933313450591 og w1 (HH.out.1.kept H1.out.1 (by simp)) (by have := HH.out.2; omega)).mono ?_
  rintro e w2 ⟨rfl, og', hd2, hk2, hog2⟩
  have hlt := H1.out.2.2
  have hs1 := H1.out.2.1
  have n0 := notin hlt hog2 w.heap.size (by omega) (by omega)
  have n1 := notin hlt hog2 (w.heap.size + 1) (by omega) (by omega)
  have n2 := notin hlt hog2 (w.heap.size + 1 + 1) (by omega) (by omega)
  have m0 := notin hlt (fun z h => .inl h : ∀ z, og = some z → og = some z ∨ w1.heap.size ≤ z) w.heap.size (by omega) (by omega)
  have m1 := notin hlt (fun z h => .inl h : ∀ z, og = some z → og = some z ∨ w1.heap.size ≤ z) (w.heap.size + 1) (by omega) (by omega)
  have m2 := notin hlt (fun z h => .inl h : ∀ z, og = some z → og = some z ∨ w1.heap.size ≤ z) (w.heap.size + 1 + 1) (by omega) (by omega)
  replace c0 := (hk2.cell (k := w.heap.size) (i := 0) (by omega) m0).trans c0
  replace f0 := (hk2.frozen (k := w.heap.size) (i := 0) (by omega) m0).trans f0
  replace k1 := (hk2.cell (k := w.heap.size + 1) (i := 1) (by omega) m1).trans k1
  replace c2 := (hk2.cell (k := w.heap.size + 1 + 1) (i := 0) (by omega) m2).trans c2
  replace f2 := (hk2.frozen (k := w.heap.size + 1 + 1) (i := 0) (by omega) m2).trans f2
  have sz2 := hk2.size
  obtain ⟨W4, hW4⟩ : ∃ W, W = w2.setCell ⟨w.heap.size, 0, none⟩ (.pointer (some ⟨g, 0, none⟩)) := ⟨_, rfl⟩
  have hd4 : DigAt W4 g (n + 8) og' := by rw [hW4]; exact hd2.far n0 _
  have hk24 : Kept [w.heap.size] w2 W4 := by rw [hW4]; exact (Kept.refl _ _).setCell (.inl (by simp)) _
  have hk4 : Kept (g :: og.toList) w W4 := by rw [hW4]; exact ((H1.out.1.mono (fun i hi => by simp at hi)).trans hk2).setCell (.inr (Nat.le_refl _)) _
  have d0 : W4.cell? ⟨w.heap.size, 0, none⟩ = some (.pointer (some ⟨g, 0, none⟩)) := by rw [hW4]; exact World.cell?_setCell_same' _ _ _ (by rw [c0]; rfl)
  have d0f : W4.frozen? ⟨w.heap.size, 0, none⟩ = false := by rw [hW4, World.frozen?_setCell]; exact f0
  have d1 := (hk24.cell (k := w.heap.size + 1) (i := 1) (by omega) (by simp)).trans k1
  have d2 := (hk24.cell (k := w.heap.size + 1 + 1) (i := 0) (by omega) (by simp; omega)).trans c2
  have d2f := (hk24.frozen (k := w.heap.size + 1 + 1) (i := 0) (by omega) (by simp; omega)).trans f2
  have sz4 : w1.heap.size ≤ W4.heap.size := by have := hk24.size; omega
  have H4 := Lib.hid (And.intro hd4 (And.intro hk4 (And.intro hog2 (And.intro hlt (And.intro hs1 (And.intro sz4 (And.intro n0 (And.intro n1 n2))))))))
  clear hd2 hk2 hog2 hlt hs1 n0 n1 n2 m0 m1 m2 sz2 hd4 hk24 hk4 sz4 H1
  unfold hV
  go_wp2_with fail
  rw [← hW4]
  clear hW4 c0 f0 k1 c2 f2
  refine (u164 g (n + 8) x og' W4 H4.out.1 (by have := HH.out.2; omega)).mono ?_
  rintro e w5 ⟨rfl, og5, hd5, hk5, hog5⟩
  obtain ⟨-, hk4, hog2, hlt, hs1, sz4, n0, n1, n2⟩ := H4.out
  replace d0 := (hk5.cell (k := w.heap.size) (i := 0) (by omega) n0).trans d0
  replace d0f := (hk5.frozen (k := w.heap.size) (i := 0) (by omega) n0).trans d0f
  replace d2 := (hk5.cell (k := w.heap.size + 1 + 1) (i := 0) (by omega) n2).trans d2
  replace d2f := (hk5.frozen (k := w.heap.size + 1 + 1) (i := 0) (by omega) n2).trans d2f
  have hog : ∀ z, og5 = some z → og = some z ∨ w1.heap.size ≤ z := fun z hz => by
    rcases hog5 z hz with h | h
    · exact hog2 z h
    · right; omega
  have p0 := notin hlt hog w.heap.size (by omega) (by omega)
  have p2 := notin hlt hog (w.heap.size + 1 + 1) (by omega) (by omega)
  have HP := Lib.hid (show WrPost w g (n + 16) og ((w5.setCell ⟨w.heap.size, 0, none⟩ (.pointer (some ⟨g, 0, none⟩))).setCell ⟨w.heap.size + 1 + 1, 0, none⟩ (.pointer (some ⟨g, 0, none⟩))) from
    ⟨og5, (hd5.far p0 _).far p2 _, ((hk4.trans2 hk5 (fun i hi => by
        rcases List.mem_cons.1 hi with rfl | hi
        · exact .inl (by simp)
        · cases og' with
          | none => simp at hi
          | some z =>
            simp at hi; subst hi
            rcases hog2 i rfl with h | h
            · left; rw [h]; simp
            · right; omega)).setCell (.inr (Nat.le_refl _)) _).setCell (.inr (by show w.heap.size ≤ w.heap.size + 1 + 1; omega)) _, fun z hz => (hog z hz).imp id fun h => by omega⟩)
  have q3 : ((w5.setCell ⟨w.heap.size, 0, none⟩ (.pointer (some ⟨g, 0, none⟩))).setCell ⟨w.heap.size + 1 + 1, 0, none⟩ (.pointer (some ⟨g, 0, none⟩))).cell? ⟨w.heap.size + 1 + 1, 0, none⟩ = some (.pointer (some ⟨g, 0, none⟩)) := by
    refine World.cell?_setCell_same' _ _ _ ?_
    rw [World.cell?_setCell_far _ _ _ _ (by show w.heap.size ≠ w.heap.size + 1 + 1; omega), d2]; rfl
  clear hk4 hog2 hlt hs1 sz4 n0 n1 n2 hd5 hk5 hog5 hog p0 p2 H4
  unfold hV
  go_wp2_with fail
  (try simp only [Exit.inBlock, Exit.then])
  refine bodyPost_ret (by simp [results, Tryz.results150, go_sem, q3]; rfl) rfl ?_
  exact ⟨rfl, HP.out⟩
end Go.Proofs.YtlpddogcnpokfaaGreat
namespace Go.Proofs.YtlpddogcnpokfaaGreat
open Go.RowKit Go.Maps
theorem raw173 (w : World) : Calls Tryz.prog 173 #[.bool true] w fun e w' => e = .returned (.int .u64 1) ∧ w = w' := by
  go_enter Tryz.func173, Tryz.ntmps173
  go_wp2_with fail
  go_ret
  exact ⟨rfl, rfl⟩
theorem bv152 (w : World) : Calls Tryz.prog 152 #[.bool true] w fun e w' => e = .returned (.agg #[.int .i64 1, .int .u64 1, .string { data := #[] }, .nilIface]) ∧ Kept [] w w' := by
  go_enter Tryz.func152, Tryz.ntmps152
  go_wp2_with fail
  refine (raw173 _).mono ?_; rintro e w' ⟨rfl, rfl⟩
  go_wp2_with fail
  go_returns
  exact ⟨rfl, (Kept.refl _ _).alloc _⟩
def kvV (s : ByteArray) : Value := .agg #[.string s, .int .i64 1, .int .u64 1, .string { data := #[] }, .nilIface]
theorem kb135 (s : ByteArray) (w : World) : Calls Tryz.prog 135 #[.string s, .bool true] w fun e w' => e = .returned (kvV s) ∧ Kept [] w w' := by
  go_enter Tryz.func135, Tryz.ntmps135
  go_wp2_with fail
  refine (bv152 _).mono ?_; rintro e w' ⟨rfl, hk⟩
  have x0 := hk.new (by simp)
  have d0 := (x0 0).1; have d1 := (x0 1).1; have d2 := (x0 2).1; have d3 := (x0 3).1; have d4 := (x0 4).1
  have f0 := (x0 0).2.1; have f1 := (x0 1).2.1; have f2 := (x0 2).2.1; have f3 := (x0 3).2.1; have f4 := (x0 4).2.1
  have HK := Lib.hid hk.past
  clear x0 hk
  go_wp2_with fail
  have hfin := Lib.hid (((((HK.out.setCell (p := ⟨w.heap.size, 0, none⟩) (.inr (Nat.le_refl _)) (.string s)).setCell (p := ⟨w.heap.size, 1, none⟩) (.inr (Nat.le_refl _)) (.int .i64 1)).setCell (p := ⟨w.heap.size, 2, none⟩) (.inr (Nat.le_refl _)) (.int .u64 1)).setCell (p := ⟨w.heap.size, 3, none⟩) (.inr (Nat.le_refl _)) (.string { data := #[] })).setCell (p := ⟨w.heap.size, 4, none⟩) (.inr (Nat.le_refl _)) (.nilIface))
  have r0 : (((((w'.setCell ⟨w.heap.size, 0, none⟩ (.string s)).setCell ⟨w.heap.size, 1, none⟩ (.int .i64 1)).setCell ⟨w.heap.size, 2, none⟩ (.int .u64 1)).setCell ⟨w.heap.size, 3, none⟩ (.string { data := #[] })).setCell ⟨w.heap.size, 4, none⟩ (.nilIface)).cell? ⟨w.heap.size, 0, none⟩ = some (.string s) := by go_simp
  have r1 : (((((w'.setCell ⟨w.heap.size, 0, none⟩ (.string s)).setCell ⟨w.heap.size, 1, none⟩ (.int .i64 1)).setCell ⟨w.heap.size, 2, none⟩ (.int .u64 1)).setCell ⟨w.heap.size, 3, none⟩ (.string { data := #[] })).setCell ⟨w.heap.size, 4, none⟩ (.nilIface)).cell? ⟨w.heap.size, 1, none⟩ = some (.int .i64 1) := by go_simp
  have r2 : (((((w'.setCell ⟨w.heap.size, 0, none⟩ (.string s)).setCell ⟨w.heap.size, 1, none⟩ (.int .i64 1)).setCell ⟨w.heap.size, 2, none⟩ (.int .u64 1)).setCell ⟨w.heap.size, 3, none⟩ (.string { data := #[] })).setCell ⟨w.heap.size, 4, none⟩ (.nilIface)).cell? ⟨w.heap.size, 2, none⟩ = some (.int .u64 1) := by go_simp
  have r3 : (((((w'.setCell ⟨w.heap.size, 0, none⟩ (.string s)).setCell ⟨w.heap.size, 1, none⟩ (.int .i64 1)).setCell ⟨w.heap.size, 2, none⟩ (.int .u64 1)).setCell ⟨w.heap.size, 3, none⟩ (.string { data := #[] })).setCell ⟨w.heap.size, 4, none⟩ (.nilIface)).cell? ⟨w.heap.size, 3, none⟩ = some (.string { data := #[] }) := by go_simp
  have r4 : (((((w'.setCell ⟨w.heap.size, 0, none⟩ (.string s)).setCell ⟨w.heap.size, 1, none⟩ (.int .i64 1)).setCell ⟨w.heap.size, 2, none⟩ (.int .u64 1)).setCell ⟨w.heap.size, 3, none⟩ (.string { data := #[] })).setCell ⟨w.heap.size, 4, none⟩ (.nilIface)).cell? ⟨w.heap.size, 4, none⟩ = some (.nilIface) := by go_simp
  generalize (((((w'.setCell ⟨w.heap.size, 0, none⟩ (.string s)).setCell ⟨w.heap.size, 1, none⟩ (.int .i64 1)).setCell ⟨w.heap.size, 2, none⟩ (.int .u64 1)).setCell ⟨w.heap.size, 3, none⟩ (.string { data := #[] })).setCell ⟨w.heap.size, 4, none⟩ (.nilIface)) = X at *
  (try simp only [Exit.inBlock, Exit.then])
  refine bodyPost_ret (by simp [results, Tryz.results135, go_sem, r0, r1, r2, r3, r4]; rfl) rfl ?_
  exact ⟨rfl, hfin.out⟩
theorem bool110 (s : ByteArray) (w : World) : Calls Tryz.prog 110 #[.string s, .bool true] w fun e w' => e = .returned (kvV s) ∧ Kept [] w w' := by
  go_enter Tryz.func110, Tryz.ntmps110
  go_wp2_with fail
  refine (kb135 _ _).mono ?_; rintro e w' ⟨rfl, hk⟩
  have x0 := hk.new (by simp)
  have d0 := (x0 0).1; have d1 := (x0 1).1; have d2 := (x0 2).1; have d3 := (x0 3).1; have d4 := (x0 4).1
  have f0 := (x0 0).2.1; have f1 := (x0 1).2.1; have f2 := (x0 2).2.1; have f3 := (x0 3).2.1; have f4 := (x0 4).2.1
  have HK := Lib.hid hk.past
  clear x0 hk
  unfold kvV
  go_wp2_with fail
  have hfin := Lib.hid (((((HK.out.setCell (p := ⟨w.heap.size, 0, none⟩) (.inr (Nat.le_refl _)) (.string s)).setCell (p := ⟨w.heap.size, 1, none⟩) (.inr (Nat.le_refl _)) (.int .i64 1)).setCell (p := ⟨w.heap.size, 2, none⟩) (.inr (Nat.le_refl _)) (.int .u64 1)).setCell (p := ⟨w.heap.size, 3, none⟩) (.inr (Nat.le_refl _)) (.string { data := #[] })).setCell (p := ⟨w.heap.size, 4, none⟩) (.inr (Nat.le_refl _)) (.nilIface))
  have r0 : (((((w'.setCell ⟨w.heap.size, 0, none⟩ (.string s)).setCell ⟨w.heap.size, 1, none⟩ (.int .i64 1)).setCell ⟨w.heap.size, 2, none⟩ (.int .u64 1)).setCell ⟨w.heap.size, 3, none⟩ (.string { data := #[] })).setCell ⟨w.heap.size, 4, none⟩ (.nilIface)).cell? ⟨w.heap.size, 0, none⟩ = some (.string s) := by go_simp
  have r1 : (((((w'.setCell ⟨w.heap.size, 0, none⟩ (.string s)).setCell ⟨w.heap.size, 1, none⟩ (.int .i64 1)).setCell ⟨w.heap.size, 2, none⟩ (.int .u64 1)).setCell ⟨w.heap.size, 3, none⟩ (.string { data := #[] })).setCell ⟨w.heap.size, 4, none⟩ (.nilIface)).cell? ⟨w.heap.size, 1, none⟩ = some (.int .i64 1) := by go_simp
  have r2 : (((((w'.setCell ⟨w.heap.size, 0, none⟩ (.string s)).setCell ⟨w.heap.size, 1, none⟩ (.int .i64 1)).setCell ⟨w.heap.size, 2, none⟩ (.int .u64 1)).setCell ⟨w.heap.size, 3, none⟩ (.string { data := #[] })).setCell ⟨w.heap.size, 4, none⟩ (.nilIface)).cell? ⟨w.heap.size, 2, none⟩ = some (.int .u64 1) := by go_simp
  have r3 : (((((w'.setCell ⟨w.heap.size, 0, none⟩ (.string s)).setCell ⟨w.heap.size, 1, none⟩ (.int .i64 1)).setCell ⟨w.heap.size, 2, none⟩ (.int .u64 1)).setCell ⟨w.heap.size, 3, none⟩ (.string { data := #[] })).setCell ⟨w.heap.size, 4, none⟩ (.nilIface)).cell? ⟨w.heap.size, 3, none⟩ = some (.string { data := #[] }) := by go_simp
  have r4 : (((((w'.setCell ⟨w.heap.size, 0, none⟩ (.string s)).setCell ⟨w.heap.size, 1, none⟩ (.int .i64 1)).setCell ⟨w.heap.size, 2, none⟩ (.int .u64 1)).setCell ⟨w.heap.size, 3, none⟩ (.string { data := #[] })).setCell ⟨w.heap.size, 4, none⟩ (.nilIface)).cell? ⟨w.heap.size, 4, none⟩ = some (.nilIface) := by go_simp
  generalize (((((w'.setCell ⟨w.heap.size, 0, none⟩ (.string s)).setCell ⟨w.heap.size, 1, none⟩ (.int .i64 1)).setCell ⟨w.heap.size, 2, none⟩ (.int .u64 1)).setCell ⟨w.heap.size, 3, none⟩ (.string { data := #[] })).setCell ⟨w.heap.size, 4, none⟩ (.nilIface)) = X at *
  (try simp only [Exit.inBlock, Exit.then])
  refine bodyPost_ret (by simp [results, Tryz.results110, go_sem, r0, r1, r2, r3, r4]; rfl) rfl ?_
  exact ⟨rfl, hfin.out⟩
theorem hkv132 (g : Nat) (s : ByteArray) (w : World) (h : Dig0 w g) (hs : s.size ≤ 800) : Calls Tryz.prog 132 #[hV g, kvV s] w (HashPost w g (s.size + 16) none) := by
  obtain ⟨W3, hW⟩ : ∃ W, W = ((w.alloc (.cells #[.pointer (some ⟨g, 0, none⟩)] 252)).alloc (.cells #[.string s, .int .i64 1, .int .u64 1, .string { data := #[] }, .nilIface] 197)).alloc (.cells #[.pointer none] 252) := ⟨_, rfl⟩
  have hl : g < w.heap.size := cell_lt h.1
  have hk3 : Kept [] w W3 := by rw [hW]; exact (((Kept.refl _ _).alloc _).alloc _).alloc _
  have hs3 : W3.heap.size = w.heap.size + 3 := by rw [hW]; simp
  have c0 : W3.cell? ⟨w.heap.size, 0, none⟩ = some (.pointer (some ⟨g, 0, none⟩)) := by rw [hW]; go_simp
  have f0 : W3.frozen? ⟨w.heap.size, 0, none⟩ = false := by rw [hW]; go_simp
  have k0 : W3.cell? ⟨w.heap.size + 1, 0, none⟩ = some (.string s) := by rw [hW]; go_simp
  have k1 : W3.cell? ⟨w.heap.size + 1, 1, none⟩ = some (.int .i64 1) := by rw [hW]; go_simp
  have k2 : W3.cell? ⟨w.heap.size + 1, 2, none⟩ = some (.int .u64 1) := by rw [hW]; go_simp
  have k3 : W3.cell? ⟨w.heap.size + 1, 3, none⟩ = some (.string { data := #[] }) := by rw [hW]; go_simp
  have k4 : W3.cell? ⟨w.heap.size + 1, 4, none⟩ = some .nilIface := by rw [hW]; go_simp
  have c2 : W3.cell? ⟨w.heap.size + 1 + 1, 0, none⟩ = some (.pointer none) := by rw [hW]; go_simp
  have f2 : W3.frozen? ⟨w.heap.size + 1 + 1, 0, none⟩ = false := by rw [hW]; go_simp
  have H3 := Lib.hid (And.intro hk3 (And.intro hs3 (And.intro hl hs)))
  have HH := Lib.hid (h.kept hk3)
  clear hk3 hs3 h hs hl
  unfold hV kvV
  go_enter Tryz.func132, Tryz.ntmps132
  go_wp2_with fail
  rw [← hW]
  clear hW
  refine (str149 g s W3 HH.out (by have := H3.out.2.2.2; omega)).mono ?_
  rintro e w2 ⟨rfl, og', hd2, hk2, hog2⟩
  obtain ⟨hk3, hs3, hl, hs⟩ := H3.out
  have hk2' : Kept [g] W3 w2 := hk2
  have hlt : ∀ i, i ∈ g :: (none : Option Nat).toList → i < w.heap.size := fun i hi => by simp at hi; omega
  have n0 := notin hlt hog2 w.heap.size (by omega) (by omega)
  have n1 := notin hlt hog2 (w.heap.size + 1) (by omega) (by omega)
  have n2 := notin hlt hog2 (w.heap.size + 1 + 1) (by omega) (by omega)
  replace c0 := (hk2'.cell (k := w.heap.size) (i := 0) (by omega) (by simp; omega)).trans c0
  replace f0 := (hk2'.frozen (k := w.heap.size) (i := 0) (by omega) (by simp; omega)).trans f0
  replace k1 := (hk2'.cell (k := w.heap.size + 1) (i := 1) (by omega) (by simp; omega)).trans k1
  replace k2 := (hk2'.cell (k := w.heap.size + 1) (i := 2) (by omega) (by simp; omega)).trans k2
  replace k3 := (hk2'.cell (k := w.heap.size + 1) (i := 3) (by omega) (by simp; omega)).trans k3
  replace k4 := (hk2'.cell (k := w.heap.size + 1) (i := 4) (by omega) (by simp; omega)).trans k4
  replace c2 := (hk2'.cell (k := w.heap.size + 1 + 1) (i := 0) (by omega) (by simp; omega)).trans c2
  replace f2 := (hk2'.frozen (k := w.heap.size + 1 + 1) (i := 0) (by omega) (by simp; omega)).trans f2
  have sz2 := hk2'.size
  obtain ⟨W4, hW4⟩ : ∃ W, W = w2.setCell ⟨w.heap.size, 0, none⟩ (.pointer (some ⟨g, 0, none⟩)) := ⟨_, rfl⟩
  have hd4 : DigAt W4 g s.size og' := by rw [hW4]; exact hd2.far n0 _
  have hk24 : Kept [w.heap.size] w2 W4 := by rw [hW4]; exact (Kept.refl _ _).setCell (.inl (by simp)) _
  have hk4 : Kept [g] w W4 := by rw [hW4]; exact ((hk3.mono (fun i hi => by simp at hi)).trans hk2').setCell (.inr (Nat.le_refl _)) _
  have d2 := (hk24.cell (k := w.heap.size + 1 + 1) (i := 0) (by omega) (by simp; omega)).trans c2
  have d2f := (hk24.frozen (k := w.heap.size + 1 + 1) (i := 0) (by omega) (by simp; omega)).trans f2
  have sz4 : w.heap.size + 3 ≤ W4.heap.size := by have := hk24.size; omega
  have hs3' : w.heap.size + 3 ≤ W3.heap.size := by omega
  have H4 := Lib.hid (And.intro hd4 (And.intro hk4 (And.intro hog2 (And.intro hlt (And.intro hs3' (And.intro sz4 (And.intro n2 hs)))))))
  clear hd2 hk2 hk2' hog2 hlt n0 n1 n2 sz2 hd4 hk24 hk4 sz4 H3 hk3 hs3 hs3' hl hs k0
  unfold hV
  go_wp2_with fail
  rw [← hW4]
  clear hW4 c0 f0 k1 k2 k3 k4 c2 f2
  refine (hash150 g s.size 1 _ og' W4 H4.out.1 (by have := H4.out.2.2.2.2.2.2.2; omega)).mono ?_
  rintro e w5 ⟨rfl, og5, hd5, hk5, hog5⟩
  obtain ⟨-, hk4, hog2, hlt, hs1, sz4, n2, hs⟩ := H4.out
  replace d2 := (hk5.cell (k := w.heap.size + 1 + 1) (i := 0) (by omega) n2).trans d2
  replace d2f := (hk5.frozen (k := w.heap.size + 1 + 1) (i := 0) (by omega) n2).trans d2f
  have hog : ∀ z, og5 = some z → (none : Option Nat) = some z ∨ w.heap.size + 3 ≤ z := fun z hz => by
    rcases hog5 z hz with h | h
    · rcases hog2 z h with h | h
      · cases h
      · right; omega
    · right; omega
  have p2 := notin hlt hog (w.heap.size + 1 + 1) (by omega) (by omega)
  have HP := Lib.hid (show WrPost w g (s.size + 16) none (w5.setCell ⟨w.heap.size + 1 + 1, 0, none⟩ (.pointer (some ⟨g, 0, none⟩))) from
    ⟨og5, hd5.far p2 _, (hk4.trans2 hk5 (fun i hi => by
        rcases List.mem_cons.1 hi with rfl | hi
        · exact .inl (by simp)
        · cases og' with
          | none => simp at hi
          | some z =>
            simp at hi; subst hi
            rcases hog2 i rfl with h | h
            · cases h
            · right; omega)).setCell (.inr (by show w.heap.size ≤ w.heap.size + 1 + 1; omega)) _, fun z hz => (hog z hz).imp id fun h => by omega⟩)
  have q3 : (w5.setCell ⟨w.heap.size + 1 + 1, 0, none⟩ (.pointer (some ⟨g, 0, none⟩))).cell? ⟨w.heap.size + 1 + 1, 0, none⟩ = some (.pointer (some ⟨g, 0, none⟩)) := World.cell?_setCell_same' _ _ _ (by rw [d2]; rfl)
  clear hk4 hog2 hlt hs1 sz4 n2 hd5 hk5 hog5 hog p2 H4
  unfold hV
  go_wp2_with fail
  (try simp only [Exit.inBlock, Exit.then])
  refine bodyPost_ret (by simp [results, Tryz.results132, go_sem, q3]; rfl) rfl ?_
  exact ⟨rfl, HP.out⟩
end Go.Proofs.YtlpddogcnpokfaaGreat
namespace Go.Proofs.YtlpddogcnpokfaaGreat
open Go.RowKit Go.Maps
theorem DigAt.dg {w : World} {g : Nat} {og : Option Nat} (h : DigAt w g 36 og) : ∃ g' c B, Dg w ⟨g, 0, none⟩ g' c B := by
  obtain ⟨v, xs, hc, ho, -, -, hb⟩ := h.row
  rcases ho.2 with ⟨_, h0⟩ | ⟨g', cap, cur, rfl, _, hg', hnc, _⟩
  · omega
  · have hx : ∀ i, i < 36 → ∃ b : Int, xs[i]? = some (.int .u8 b) := fun i hi => by
      have hl : i < xs.length := by have := ho.1; omega
      obtain ⟨b, e⟩ := hb xs[i] (List.getElem_mem hl)
      exact ⟨b, by rw [List.getElem?_eq_getElem hl, e]⟩
    refine ⟨g', cap, fun i => (match xs[i]? with | some (.int _ b) => b | _ => 0), hc, fun i hi => ?_, hnc⟩
    obtain ⟨b, e⟩ := hx i hi
    have := (ho.cells (g := g') rfl) i _ e
    rw [add0] at this
    rw [this, e]
theorem new131 (w : World) : Calls Tryz.prog 131 #[] w fun e w' => ∃ g, e = .returned (hV g) ∧ Dig0 w' g ∧ w.heap.size ≤ g ∧ Kept [] w w' := by
  go_enter Tryz.func131, Tryz.ntmps131
  go_wp2_with fail
  refine (zzNew148 _).mono ?_; rintro e w' ⟨rfl, rfl⟩
  go_wp2_with fail
  go_returns
  refine ⟨w.heap.size + 1, rfl, ⟨?_, ?_⟩, by omega, ((Kept.refl _ _).alloc _).alloc _⟩
  · go_simp
  · go_simp
def NewH (w : World) (e : Ending) (w' : World) : Prop := ∃ p g, e = .returned (.pointer (some ⟨p, 0, none⟩)) ∧ w'.cell? ⟨p, 0, none⟩ = some (.pointer (some ⟨g, 0, none⟩)) ∧ Dig0 w' g ∧ w.heap.size ≤ g ∧ g < p ∧ w.heap.size ≤ p ∧ Kept [] w w'
theorem new103 (w : World) : Calls Tryz.prog 103 #[] w (NewH w) := by
  go_enter Tryz.func103, Tryz.ntmps103
  go_wp2_with fail
  refine (new131 _).mono ?_; rintro e w1 ⟨g, rfl, hd, hg, hk⟩
  unfold hV
  have hl : g < w1.heap.size := cell_lt hd.1
  have HK := Lib.hid (And.intro hd (And.intro hg (And.intro hk hl)))
  clear hd hg hk hl
  go_wp2_with fail
  go_ret
  obtain ⟨hd, hg, hk, hl⟩ := HK.out
  refine ⟨w1.heap.size, g, rfl, ?_, hd.kept ((Kept.refl _ _).alloc _), hg, hl, by have := hk.size; omega, hk.alloc _⟩
  go_simp
theorem wr105 (p g : Nat) (s : ByteArray) (w : World) (hp : w.cell? ⟨p, 0, none⟩ = some (.pointer (some ⟨g, 0, none⟩))) (h : Dig0 w g) (hs : s.size ≤ 800) : Calls Tryz.prog 105 #[.pointer (some ⟨p, 0, none⟩), kvV s] w fun e w' => e = .returned (.tuple #[]) ∧ WrPost w g (s.size + 16) none w' := by
  have hl : p < w.heap.size := cell_lt hp
  have hlg : g < w.heap.size := cell_lt h.1
  obtain ⟨W3, hW⟩ : ∃ W, W = (w.alloc (.cells #[.string s, .int .i64 1, .int .u64 1, .string { data := #[] }, .nilIface] 197)) := ⟨_, rfl⟩
  have hk3 : Kept [] w W3 := by rw [hW]; exact (Kept.refl _ _).alloc _
  have hs3 : W3.heap.size = w.heap.size + 1 := by rw [hW]; simp
  have c0 : W3.cell? ⟨p, 0, none⟩ = some (.pointer (some ⟨g, 0, none⟩)) := (hk3.cell hl (by simp)).trans hp
  have k0 : W3.cell? ⟨w.heap.size, 0, none⟩ = some (.string s) := by rw [hW]; go_simp
  have k1 : W3.cell? ⟨w.heap.size, 1, none⟩ = some (.int .i64 1) := by rw [hW]; go_simp
  have k2 : W3.cell? ⟨w.heap.size, 2, none⟩ = some (.int .u64 1) := by rw [hW]; go_simp
  have k3 : W3.cell? ⟨w.heap.size, 3, none⟩ = some (.string { data := #[] }) := by rw [hW]; go_simp
  have k4 : W3.cell? ⟨w.heap.size, 4, none⟩ = some .nilIface := by rw [hW]; go_simp
  have F := Lib.hid (hkv132 g s W3.drew (h.kept (hk3.dr ⟨1, rfl⟩)) hs)
  unfold hV kvV at F
  have H3 := Lib.hid (And.intro hk3 (And.intro hs3 hlg))
  clear hk3 hs3 h hs hl hlg hp
  unfold kvV
  go_enter Tryz.func105, Tryz.ntmps105
  go_wp2_with fail
  rw [← hW]
  clear hW
  go_region_with (go_at_call 132; refine F.out.mono ?_; rintro e w1 ⟨rfl, hp⟩)
  all_goals
    have HP : WrPost w g (s.size + 16) none w1 := by
      obtain ⟨og', hd, hk, hog⟩ := hp
      refine ⟨og', hd, (H3.out.1.mono (fun i hi => by simp at hi)).trans (((Kept.refl _ W3).dr ⟨1, rfl⟩).trans hk), fun z hz => (hog z hz).imp id fun h => ?_⟩
      have h : W3.heap.size ≤ z := h
      have := H3.out.2.1; omega
    have HP := Lib.hid HP
    clear hp k0 k1 k2 k3 k4 c0 F H3
    go_wp2_with fail
    refine bodyPost_end (results_none rfl _ _ _) rfl ⟨rfl, HP.out⟩
end Go.Proofs.YtlpddogcnpokfaaGreat
namespace Go.Proofs.YtlpddogcnpokfaaGreat
open Go.RowKit Go.Maps
theorem sum134b (g : Nat) (og : Option Nat) (w : World) (h : DigAt w g 36 og) : Calls Tryz.prog 134 #[hV g] w (SomeU w) := by
  have hk : Kept [] w (w.alloc (.cells #[.pointer (some ⟨g, 0, none⟩)] 252)) := (Kept.refl _ _).alloc _
  obtain ⟨g', c, B, hD⟩ := h.dg
  have HD := Lib.hid (hD.kept hk)
  have HK := Lib.hid hk
  clear hk hD h
  unfold hV
  go_enter Tryz.func134, Tryz.ntmps134
  go_wp2_with fail
  refine (sum36 _ g' c B _ HD.out).mono ?_; rintro e w' ⟨x, rfl, hk⟩
  replace HK := Lib.hid (HK.out.trans hk)
  clear hk
  go_wp2_with fail
  go_ret
  exact ⟨_, rfl, HK.out⟩
def IsU (w : World) (e : Ending) (w' : World) : Prop := ∃ x : Int, e = .returned (.int .u64 x) ∧ w' = w
theorem rz133 (x : Int) (w : World) : Calls Tryz.prog 133 #[.int .u64 x] w (IsU w) := by
  by_cases hx : x = 0
  · subst hx
    go_enter Tryz.func133, Tryz.ntmps133
    go_wp2_with fail
    go_ret
    exact ⟨_, rfl, rfl⟩
  · go_enter Tryz.func133, Tryz.ntmps133
    go_wp2_with fail
    go_ret
    exact ⟨_, rfl, rfl⟩
def SomeD (w : World) (e : Ending) (w' : World) : Prop := ∃ x : Int, e = .returned (.agg #[.int .u64 x]) ∧ Kept [] w w'
theorem dis109 (p g : Nat) (og : Option Nat) (w : World) (hp : w.cell? ⟨p, 0, none⟩ = some (.pointer (some ⟨g, 0, none⟩))) (h : DigAt w g 36 og) : Calls Tryz.prog 109 #[.pointer (some ⟨p, 0, none⟩)] w (SomeD w) := by
  have hl : p < w.heap.size := cell_lt hp
  obtain ⟨W3, hW⟩ : ∃ W, W = (w.alloc (.cells #[.int .u64 0] 176)) := ⟨_, rfl⟩
  have hk3 : Kept [] w W3 := by rw [hW]; exact (Kept.refl _ _).alloc _
  have hs3 : W3.heap.size = w.heap.size + 1 := by rw [hW]; simp
  have c0 : W3.cell? ⟨p, 0, none⟩ = some (.pointer (some ⟨g, 0, none⟩)) := (hk3.cell hl (by simp)).trans hp
  have q0 : W3.cell? ⟨w.heap.size, 0, none⟩ = some (.int .u64 0) := by rw [hW]; go_simp
  have f0 : W3.frozen? ⟨w.heap.size, 0, none⟩ = false := by rw [hW]; go_simp
  have HD := Lib.hid (h.kept hk3 (by simp))
  have H3 := Lib.hid (And.intro hk3 hs3)
  have hne : p ≠ w.heap.size := by omega
  clear hk3 hs3 h
  go_enter Tryz.func109, Tryz.ntmps109
  go_wp2_with fail
  rw [← hW]
  clear hW
  have F := sum134b g og W3 HD.out
  unfold hV at F
  refine F.mono ?_; rintro e w1 ⟨x, rfl, hk⟩
  have q1 := (hk.cell (k := w.heap.size) (i := 0) (by have := H3.out.2; omega) (by simp)).trans q0
  have f1 := (hk.frozen (k := w.heap.size) (i := 0) (by have := H3.out.2; omega) (by simp)).trans f0
  have HK := Lib.hid (H3.out.1.trans hk)
  clear hk q0 f0 c0 H3 HD F hl hp hne
  go_wp2_with fail
  refine (rz133 x w1).mono ?_; rintro e w1 ⟨y, rfl, rfl⟩
  have q2 : (w1.setCell ⟨w.heap.size, 0, none⟩ (.int .u64 y)).cell? ⟨w.heap.size, 0, none⟩ = some (.int .u64 y) := World.cell?_setCell_same' _ _ _ (by rw [q1]; rfl)
  go_wp2_with fail
  (try simp only [Exit.inBlock, Exit.then])
  refine bodyPost_ret (by simp [results, Tryz.results109, go_sem, q2]; rfl) rfl ?_
  exact ⟨y, rfl, HK.out.setCell (.inr (Nat.le_refl _)) _⟩
/-- one attribute in memory -/
def KvAt (w : World) (b : Nat) (s : ByteArray) : Prop := w.cell? ⟨b, 0, none⟩ = some (.string s) ∧ w.cell? ⟨b, 1, none⟩ = some (.int .i64 1) ∧ w.cell? ⟨b, 2, none⟩ = some (.int .u64 1) ∧ w.cell? ⟨b, 3, none⟩ = some (.string { data := #[] }) ∧ w.cell? ⟨b, 4, none⟩ = some .nilIface
theorem KvAt.kept {w w' : World} {b : Nat} {s : ByteArray} (h : KvAt w b s) (hk : Kept [] w w') : KvAt w' b s :=
  ⟨(hk.cell (cell_lt h.1) (by simp)).trans h.1, (hk.cell (cell_lt h.1) (by simp)).trans h.2.1, (hk.cell (cell_lt h.1) (by simp)).trans h.2.2.1, (hk.cell (cell_lt h.1) (by simp)).trans h.2.2.2.1, (hk.cell (cell_lt h.1) (by simp)).trans h.2.2.2.2⟩
theorem fld176 (x : Int) (w : World) : (Instr.field 176 (.agg #[.int .u64 x]) 0).run Tryz.prog w = .ok (.int .u64 x) w := by kernel_rfl
set_option maxRecDepth 100000 in
theorem hash126 (b c : Nat) (s : ByteArray) (w : World) (h : KvAt w b s) (hs : s.size = 20) : Calls Tryz.prog 126 #[.slice (some ⟨b, 0, none⟩) 1 c] w (SomeU w) := by
  have HB := Lib.hid h
  have HS := Lib.hid hs
  clear h hs
  go_enter Tryz.func126, Tryz.ntmps126
  go_wp2_with fail
  refine (new103 w).mono ?_; rintro e w1 ⟨p, g, rfl, hp, hd, hg, hgp, hpw, hk⟩
  obtain ⟨k0, k1, k2, k3, k4⟩ := HB.out.kept hk
  have HD := Lib.hid (And.intro hd (And.intro hg (And.intro hgp (And.intro hpw hk))))
  clear hd hg hgp hpw hk HB
  go_wp2_with fail
  refine wp_loop_rounds 2 ?_
  rw [rounds_succ]
  go_wp2_with fail
  obtain ⟨W3, hW⟩ : ∃ W, W = (w1.alloc (.cells #[.string s, .int .i64 1, .int .u64 1, .string { data := #[] }, .nilIface] 197)) := ⟨_, rfl⟩
  rw [← hW]
  have hk3 : Kept [] w1 W3 := by rw [hW]; exact (Kept.refl _ _).alloc _
  have F := Lib.hid (wr105 p g s W3 ((hk3.cell (cell_lt hp) (by simp)).trans hp) (HD.out.1.kept hk3) (by have := HS.out; omega))
  unfold kvV at F
  refine F.out.mono ?_; rintro e w2 ⟨rfl, og', hd2, hk2, hog2⟩
  obtain ⟨hd, hg, hgp, hpw, hk⟩ := HD.out
  have hk2' : Kept [g] W3 w2 := hk2
  have hk13 : Kept [g] w1 w2 := (hk3.mono (fun i hi => by simp at hi)).trans hk2'
  have p2 := (hk13.cell (cell_lt hp) (by simp; omega)).trans hp
  have HK := Lib.hid (show Kept [] w w2 from hk.trans2 hk13 (fun i hi => .inr (by simp at hi; omega)))
  rw [show s.size + 16 = 36 from by rw [HS.out]] at hd2
  have HD2 := Lib.hid hd2
  clear hd hg hgp hpw hk hk2 hk2' hk13 hk3 hW HD F k0 k1 k2 k3 k4 hog2 hd2 hp
  go_wp2_with fail
  rw [rounds_succ]
  go_wp2_with fail
  refine (dis109 p g og' w2 p2 HD2.out).mono ?_; rintro e w3 ⟨x, rfl, hk⟩
  have hfl := fld176 x w3
  replace HK := Lib.hid (HK.out.trans hk)
  clear hk
  go_wp2_with fail
  go_ret
  exact ⟨x, rfl, HK.out⟩
end Go.Proofs.YtlpddogcnpokfaaGreat
namespace Go.Proofs.YtlpddogcnpokfaaGreat
open Go.RowKit Go.Maps
theorem ins144 (V f : Value) (w : World) : Calls Tryz.prog 144 #[V, .int .i64 0, .int .i64 1, f] w fun e w' => e = .returned (.tuple #[]) ∧ w = w' := by
  go_enter Tryz.func144, Tryz.ntmps144
  go_wp2_with fail
  refine wp_loop_once ?_
  go_wp2_with fail
  go_end0
  exact ⟨rfl, rfl⟩
theorem stb124 (V f : Value) (w : World) : Calls Tryz.prog 124 #[V, .int .i64 1, f] w fun e w' => e = .returned (.tuple #[]) ∧ w = w' := by
  go_enter Tryz.func124, Tryz.ntmps124
  go_wp2_with fail
  refine wp_loop_once ?_
  go_wp2_with fail
  refine (ins144 V f w).mono ?_; rintro e w' ⟨rfl, rfl⟩
  go_wp2_with fail
  refine wp_loop_once ?_
  go_wp2_with fail
  go_end0
  exact ⟨rfl, rfl⟩
theorem srt87 (ad : Option Addr) (c : Nat) (f : Value) (w : World) : Calls Tryz.prog 87 #[.slice ad 1 c, f] w fun e w' => e = .returned (.tuple #[]) ∧ w = w' := by
  go_enter Tryz.func87, Tryz.ntmps87
  go_wp2_with fail
  refine (stb124 _ f w).mono ?_; rintro e w' ⟨rfl, rfl⟩
  go_wp2_with fail
  go_end0
  exact ⟨rfl, rfl⟩
theorem info197 : ∃ i, Tryz.prog.info? 197 = some i ∧ i.zero = some (.agg #[.string { data := #[] }, .int .i64 0, .int .u64 0, .string { data := #[] }, .nilIface]) ∧ i.size = 5 ∧ i.bytes = 64 := by
  have h : (Tryz.prog.info? 197).map (fun i => (i.zero, i.size, i.bytes)) = some (some (.agg #[.string { data := #[] }, .int .i64 0, .int .u64 0, .string { data := #[] }, .nilIface]), 5, 64) := by kernel_rfl
  cases hi : Tryz.prog.info? 197 with
  | none => rw [hi] at h; cases h
  | some i => rw [hi] at h; simp only [Option.map_some, Option.some.injEq, Prod.mk.injEq] at h; exact ⟨i, rfl, h.1, h.2.1, h.2.2⟩
def SomeS (w : World) (e : Ending) (w' : World) : Prop := ∃ (x : Int) (ad : Option Addr) (n c : Nat), e = .returned (.agg #[.int .u64 x, .slice ad n c]) ∧ Kept [] w w'
set_option maxRecDepth 100000 in
theorem new91 (b c : Nat) (s : ByteArray) (w : World) (h : KvAt w b s) (hs : s.size = 20) : Calls Tryz.prog 91 #[.slice (some ⟨b, 0, none⟩) 1 c] w (SomeS w) := by
  obtain ⟨W3, hW⟩ : ∃ W, W = (w.alloc (.cells #[.int .u64 0, .slice none 0 0] 99)) := ⟨_, rfl⟩
  have hk3 : Kept [] w W3 := by rw [hW]; exact (Kept.refl _ _).alloc _
  have hs3 : W3.heap.size = w.heap.size + 1 := by rw [hW]; simp
  have q0 : W3.cell? ⟨w.heap.size, 0, none⟩ = some (.int .u64 0) := by rw [hW]; go_simp
  have q1 : W3.cell? ⟨w.heap.size, 1, none⟩ = some (.slice none 0 0) := by rw [hW]; go_simp
  have f0 : W3.frozen? ⟨w.heap.size, 0, none⟩ = false := by rw [hW]; go_simp
  have f1 : W3.frozen? ⟨w.heap.size, 1, none⟩ = false := by rw [hW]; go_simp
  have HB := Lib.hid (h.kept hk3)
  have H3 := Lib.hid (And.intro hk3 hs3)
  have HS := Lib.hid hs
  obtain ⟨i0, hi, hz0, hz1, hz2⟩ := info197
  have HI := Lib.hid (And.intro hi (And.intro hz0 (And.intro hz1 hz2)))
  clear hk3 hs3 h hs hi hz0 hz1 hz2
  go_enter Tryz.func91, Tryz.ntmps91
  go_wp2_with fail
  rw [← hW]
  clear hW
  refine (hash126 b c s W3 HB.out HS.out).mono ?_; rintro e w1 ⟨x, rfl, hk⟩
  have hsz := hk.size
  replace q0 := (hk.cell (k := w.heap.size) (i := 0) (by have := H3.out.2; omega) (by simp)).trans q0
  replace q1 := (hk.cell (k := w.heap.size) (i := 1) (by have := H3.out.2; omega) (by simp)).trans q1
  replace f0 := (hk.frozen (k := w.heap.size) (i := 0) (by have := H3.out.2; omega) (by simp)).trans f0
  replace f1 := (hk.frozen (k := w.heap.size) (i := 1) (by have := H3.out.2; omega) (by simp)).trans f1
  have hsz1 : w.heap.size < w1.heap.size := by have := H3.out.2; omega
  have HK := Lib.hid (And.intro (H3.out.1.trans hk) hsz1)
  have HB1 := Lib.hid ((HB.out.kept hk).kept ((Kept.refl [] w1).alloc (.cells #[] 197)))
  clear hk hsz HB H3
  have HN := Lib.hid (show ∀ j u, ([.string s, .int .i64 1, .int .u64 1, .string { data := #[] }, .nilIface] : List Value)[j]? = some u → (w1.alloc (.cells #[] 197)).cell? (Addr.add ⟨b, 0, none⟩ j) = some u from by
    intro j u hj
    rw [add0]
    obtain ⟨k0, k1, k2, k3, k4⟩ := HB1.out
    match j, hj with
    | 0, hj => cases hj; exact k0
    | 1, hj => cases hj; exact k1
    | 2, hj => cases hj; exact k2
    | 3, hj => cases hj; exact k3
    | 4, hj => cases hj; exact k4)
  have HO := Lib.hid (show (w1.alloc (.cells #[] 197)).ownsRow w1.heap.size 197 5 (.slice (some ⟨w1.heap.size, 0, none⟩) 0 0) 0 [] from
    ⟨rfl, .inr ⟨w1.heap.size, 0, #[], rfl, Nat.le_refl _, (MapKept.heap_alloc w1 _).1, Nat.le_refl _, Nat.zero_le _, rfl, rfl⟩⟩)
  go_wp2_with (at_builtin; refine wpList_append_own_at _ rfl _ _ 97 rfl w1.heap.size 197 i0 _ 5 64 Tryz.underlying97 HI.out.1 HI.out.2.1 HI.out.2.2.1 HI.out.2.2.2 rfl (by decide) _ 0 [] rfl HO.out ⟨b, 0, none⟩ 1 c _ rfl rfl HN.out (fun u hu => by simp at hu; rcases hu with rfl | rfl | rfl | rfl | rfl <;> rfl) (by decide) (by decide) (by simp) ?_; intro v' w2 hown hgr hnil hat; have hk2 : Kept [w1.heap.size] w1 w2 := ((Kept.refl [w1.heap.size] w1).alloc (.cells #[] 197)).trans (grownBy_kept hgr); have t0 := (hk2.cell (k := w.heap.size) (i := 0) HK.out.2 (by simp; omega)).trans q0; have t1 := (hk2.cell (k := w.heap.size) (i := 1) HK.out.2 (by simp; omega)).trans q1; have t2 := (hk2.frozen (k := w.heap.size) (i := 0) HK.out.2 (by simp; omega)).trans f0; have t3 := (hk2.frozen (k := w.heap.size) (i := 1) HK.out.2 (by simp; omega)).trans f1; obtain ⟨ad, m, cp, rfl⟩ := own_shp hown; have HK2 := Lib.hid (HK.out.1.trans2 hk2 (fun i hi => .inr (by simp at hi; have := HK.out.2; omega))); clear hown hgr hnil hat hk2)
  have r0 : ((w2.setCell ⟨w.heap.size, 0, none⟩ (.int .u64 x)).setCell ⟨w.heap.size, 1, none⟩ (.slice ad m cp)).cell? ⟨w.heap.size, 0, none⟩ = some (.int .u64 x) := by go_simp
  have r1 : ((w2.setCell ⟨w.heap.size, 0, none⟩ (.int .u64 x)).setCell ⟨w.heap.size, 1, none⟩ (.slice ad m cp)).cell? ⟨w.heap.size, 1, none⟩ = some (.slice ad m cp) := by go_simp
  have HK3 := Lib.hid (((HK2.out.setCell (p := ⟨w.heap.size, 0, none⟩) (.inr (Nat.le_refl _)) (.int .u64 x)).setCell (p := ⟨w.heap.size, 1, none⟩) (.inr (Nat.le_refl _)) (.slice ad m cp)))
  generalize ((w2.setCell ⟨w.heap.size, 0, none⟩ (.int .u64 x)).setCell ⟨w.heap.size, 1, none⟩ (.slice ad m cp)) = X at *
  (try simp only [Exit.inBlock, Exit.then])
  refine bodyPost_ret (by simp [results, Tryz.results91, go_sem, r0, r1]; rfl) rfl ?_
  exact ⟨x, ad, m, cp, rfl, HK3.out⟩
theorem nsf56 (b c : Nat) (s : ByteArray) (w : World) (h : KvAt w b s) (hs : s.size = 20) : Calls Tryz.prog 56 #[.slice (some ⟨b, 0, none⟩) 1 c, .nilFunc] w fun e w' => ∃ (x : Int) (ad : Option Addr) (n c' : Nat), e = .returned (.tuple #[.agg #[.int .u64 x, .slice ad n c'], .slice none 0 0]) ∧ Kept [] w w' := by
  obtain ⟨W3, hW⟩ : ∃ W, W = (w.alloc (.cells #[.int .u64 0, .slice none 0 0] 99)) := ⟨_, rfl⟩
  have hnf : ∀ w, (binOp .neq 85 .nilFunc .nilFunc).run Tryz.prog w = .ok (.bool false) w := fun _ => by kernel_rfl
  have hk3 : Kept [] w W3 := by rw [hW]; exact (Kept.refl _ _).alloc _
  have HB := Lib.hid (h.kept hk3)
  have H3 := Lib.hid hk3
  have hs3 : W3.heap.size = w.heap.size + 1 := by rw [hW]; simp
  have q0 : W3.cell? ⟨w.heap.size, 0, none⟩ = some (.int .u64 0) := by rw [hW]; go_simp
  have q1 : W3.cell? ⟨w.heap.size, 1, none⟩ = some (.slice none 0 0) := by rw [hW]; go_simp
  have f0 : W3.frozen? ⟨w.heap.size, 0, none⟩ = false := by rw [hW]; go_simp
  have f1 : W3.frozen? ⟨w.heap.size, 1, none⟩ = false := by rw [hW]; go_simp
  have HS := Lib.hid hs
  have HZ := Lib.hid hs3
  clear h hs hk3 hs3
  go_enter Tryz.func56, Tryz.ntmps56
  go_wp2_with fail
  rw [← hW]
  clear hW
  refine (srt87 _ _ _ _).mono ?_; rintro e w' ⟨rfl, rfl⟩
  go_wp2_with fail
  refine wp_loop_once ?_
  go_wp2_with fail
  refine (new91 b c s W3 HB.out HS.out).mono ?_; rintro e w1 ⟨x, ad, n, cp, rfl, hk⟩
  replace q0 := (hk.cell (k := w.heap.size) (i := 0) (by have := HZ.out; omega) (by simp)).trans q0
  replace q1 := (hk.cell (k := w.heap.size) (i := 1) (by have := HZ.out; omega) (by simp)).trans q1
  replace f0 := (hk.frozen (k := w.heap.size) (i := 0) (by have := HZ.out; omega) (by simp)).trans f0
  replace f1 := (hk.frozen (k := w.heap.size) (i := 1) (by have := HZ.out; omega) (by simp)).trans f1
  have HK2 := Lib.hid (H3.out.trans hk)
  clear hk HZ H3 HB HS
  go_wp2_with fail
  have r0 : ((w1.setCell ⟨w.heap.size, 0, none⟩ (.int .u64 x)).setCell ⟨w.heap.size, 1, none⟩ (.slice ad n cp)).cell? ⟨w.heap.size, 0, none⟩ = some (.int .u64 x) := by go_simp
  have r1 : ((w1.setCell ⟨w.heap.size, 0, none⟩ (.int .u64 x)).setCell ⟨w.heap.size, 1, none⟩ (.slice ad n cp)).cell? ⟨w.heap.size, 1, none⟩ = some (.slice ad n cp) := by go_simp
  have HK3 := Lib.hid (((HK2.out.setCell (p := ⟨w.heap.size, 0, none⟩) (.inr (Nat.le_refl _)) (.int .u64 x)).setCell (p := ⟨w.heap.size, 1, none⟩) (.inr (Nat.le_refl _)) (.slice ad n cp)))
  generalize ((w1.setCell ⟨w.heap.size, 0, none⟩ (.int .u64 x)).setCell ⟨w.heap.size, 1, none⟩ (.slice ad n cp)) = X at *
  (try simp only [Exit.inBlock, Exit.then])
  refine bodyPost_ret (by simp [results, Tryz.results56, go_sem, r0, r1]; rfl) rfl ?_
  exact ⟨x, ad, n, cp, rfl, HK3.out⟩
set_option maxRecDepth 100000 in
theorem ns45 (b c : Nat) (s : ByteArray) (w : World) (h : KvAt w b s) (hs : s.size = 20) : Calls Tryz.prog 45 #[.slice (some ⟨b, 0, none⟩) 1 c] w (SomeS w) := by
  have HB := Lib.hid (h.kept ((Kept.refl [] w).alloc (.cells #[.int .u64 0, .slice none 0 0] 99)))
  have HS := Lib.hid hs
  clear h hs
  go_enter Tryz.func45, Tryz.ntmps45
  go_wp2_with fail
  refine (nsf56 b c s _ HB.out HS.out).mono ?_; rintro e w1 ⟨x, ad, n, cp, rfl, hk⟩
  obtain ⟨d0, g0, d1, g1, hs⟩ := set_new hk
  have hne : w.heap.size ≠ w1.heap.size := by omega
  have HK := Lib.hid hk.past
  clear hk HB HS
  go_wp2_with fail
  have r0 : (((w1.setCell ⟨w.heap.size, 0, none⟩ (.int .u64 x)).setCell ⟨w.heap.size, 1, none⟩ (.slice ad n cp)).alloc (.cells #[.int .u64 x, .slice ad n cp] 99)).cell? ⟨w.heap.size, 0, none⟩ = some (.int .u64 x) := by go_simp
  have r1 : (((w1.setCell ⟨w.heap.size, 0, none⟩ (.int .u64 x)).setCell ⟨w.heap.size, 1, none⟩ (.slice ad n cp)).alloc (.cells #[.int .u64 x, .slice ad n cp] 99)).cell? ⟨w.heap.size, 1, none⟩ = some (.slice ad n cp) := by go_simp
  have HK3 := Lib.hid ((((HK.out.setCell (p := ⟨w.heap.size, 0, none⟩) (.inr (Nat.le_refl _)) (.int .u64 x)).setCell (p := ⟨w.heap.size, 1, none⟩) (.inr (Nat.le_refl _)) (.slice ad n cp))).alloc (.cells #[.int .u64 x, .slice ad n cp] 99))
  generalize (((w1.setCell ⟨w.heap.size, 0, none⟩ (.int .u64 x)).setCell ⟨w.heap.size, 1, none⟩ (.slice ad n cp)).alloc (.cells #[.int .u64 x, .slice ad n cp] 99)) = X at *
  (try simp only [Exit.inBlock, Exit.then])
  refine bodyPost_ret (by simp [results, Tryz.results45, go_sem, r0, r1]; rfl) rfl ?_
  exact ⟨x, ad, n, cp, rfl, HK3.out⟩
set_option maxRecDepth 100000 in
theorem ov72 (w : World) : Calls Tryz.prog 72 #[] w (SomeS w) := by
  go_enter Tryz.func72, Tryz.ntmps72
  go_wp2_with fail
  refine (bool110 _ _).mono ?_; rintro e w1 ⟨rfl, hk⟩
  obtain ⟨d0, g0, d1, g1, hs⟩ := set_new hk
  have HK := Lib.hid hk.past
  have HB := Lib.hid (show KvAt (w1.alloc (.cells #[.string { data := #[111, 116, 101, 108, 46, 109, 101, 116, 114, 105, 99, 46, 111, 118, 101, 114, 102, 108, 111, 119] }, .int .i64 1, .int .u64 1, .string { data := #[] }, .nilIface] 197)) w1.heap.size { data := #[111, 116, 101, 108, 46, 109, 101, 116, 114, 105, 99, 46, 111, 118, 101, 114, 102, 108, 111, 119] } from by
    refine ⟨?_, ?_, ?_, ?_, ?_⟩ <;> go_simp)
  clear hk
  unfold kvV
  go_wp2_with fail
  refine (ns45 w1.heap.size 1 _ _ HB.out rfl).mono ?_; rintro e w2 ⟨x, ad, n, cp, rfl, hk⟩
  have hk2 : Kept [] w1 w2 := ((Kept.refl [] w1).alloc _).trans hk
  replace d0 := (hk2.cell (k := w.heap.size) (i := 0) hs (by simp)).trans d0
  replace d1 := (hk2.cell (k := w.heap.size) (i := 1) hs (by simp)).trans d1
  replace g0 := (hk2.frozen (k := w.heap.size) (i := 0) hs (by simp)).trans g0
  replace g1 := (hk2.frozen (k := w.heap.size) (i := 1) hs (by simp)).trans g1
  have HK2 := Lib.hid (HK.out.trans hk2)
  clear hk hk2 HK HB hs
  go_wp2_with fail
  have r0 : ((w2.setCell ⟨w.heap.size, 0, none⟩ (.int .u64 x)).setCell ⟨w.heap.size, 1, none⟩ (.slice ad n cp)).cell? ⟨w.heap.size, 0, none⟩ = some (.int .u64 x) := by go_simp
  have r1 : ((w2.setCell ⟨w.heap.size, 0, none⟩ (.int .u64 x)).setCell ⟨w.heap.size, 1, none⟩ (.slice ad n cp)).cell? ⟨w.heap.size, 1, none⟩ = some (.slice ad n cp) := by go_simp
  have HK3 := Lib.hid (((HK2.out.setCell (p := ⟨w.heap.size, 0, none⟩) (.inr (Nat.le_refl _)) (.int .u64 x)).setCell (p := ⟨w.heap.size, 1, none⟩) (.inr (Nat.le_refl _)) (.slice ad n cp)))
  generalize ((w2.setCell ⟨w.heap.size, 0, none⟩ (.int .u64 x)).setCell ⟨w.heap.size, 1, none⟩ (.slice ad n cp)) = X at *
  (try simp only [Exit.inBlock, Exit.then])
  refine bodyPost_ret (by simp [results, Tryz.results72, go_sem, r0, r1]; rfl) rfl ?_
  exact ⟨x, ad, n, cp, rfl, HK3.out⟩
theorem equ75 (a : Addr) (x : Int) (w : World) (hc : w.cell? a = some (.int .u64 x)) : Calls Tryz.prog 75 #[.pointer (some a)] w (SomeD w) := by
  have hl := cell_lt hc
  have hne : a.block ≠ w.heap.size := by omega
  by_cases hx : x = 0
  · subst hx
    go_enter Tryz.func75, Tryz.ntmps75
    go_wp2_with fail
    refine (empty113 _).mono ?_; rintro e w1 ⟨rfl, hk⟩
    have d0 := (hk.new (by simp) 0).1
    have f0 := (hk.new (by simp) 0).2.1
    have HK := Lib.hid hk.past
    clear hk
    unfold H0
    go_wp2_with fail
    have r0 : (w1.setCell ⟨w.heap.size, 0, none⟩ (.int .u64 17241709254077376921)).cell? ⟨w.heap.size, 0, none⟩ = some (.int .u64 17241709254077376921) := by go_simp
    have HK3 := Lib.hid (HK.out.setCell (p := ⟨w.heap.size, 0, none⟩) (.inr (Nat.le_refl _)) (.int .u64 17241709254077376921))
    generalize (w1.setCell ⟨w.heap.size, 0, none⟩ (.int .u64 17241709254077376921)) = X at *
    (try simp only [Exit.inBlock, Exit.then])
    refine bodyPost_ret (by simp [results, Tryz.results75, go_sem, r0]; rfl) rfl ?_
    exact ⟨_, rfl, HK3.out⟩
  · have hx' : ¬ (x = 0) := hx
    go_enter Tryz.func75, Tryz.ntmps75
    go_wp2_with fail
    have r0 : (w.alloc (.cells #[.int .u64 x] 176)).cell? ⟨w.heap.size, 0, none⟩ = some (.int .u64 x) := by go_simp
    have HK3 := Lib.hid ((Kept.refl [] w).alloc (.cells #[.int .u64 x] 176))
    generalize w.alloc (.cells #[.int .u64 x] 176) = W at *
    (try simp only [Exit.inBlock, Exit.then])
    refine bodyPost_ret (by simp [results, Tryz.results75, go_sem, r0]; rfl) rfl ?_
    exact ⟨x, rfl, HK3.out⟩
/-- the mark of what is too much: some mark, and old memory as it was -/
theorem over71 (w : World) : Calls Tryz.prog 71 #[] w (SomeD w) := by
  go_enter Tryz.func71, Tryz.ntmps71
  go_wp2_with fail
  refine (ov72 _).mono ?_; rintro e w1 ⟨x, ad, n, cp, rfl, hk⟩
  have d0 := (hk.new (by simp) 0).1
  have f0 := (hk.new (by simp) 0).2.1
  have hs := (hk.new (by simp) 0).2.2
  have HK := Lib.hid hk.past
  clear hk
  go_wp2_with fail
  refine (equ75 ⟨w1.heap.size, 0, none⟩ x _ (by go_simp)).mono ?_; rintro e w2 ⟨y, rfl, hk⟩
  have hk2 : Kept [] w1 w2 := ((Kept.refl [] w1).alloc _).trans hk
  replace d0 := (hk2.cell (k := w.heap.size) (i := 0) hs (by simp)).trans d0
  replace f0 := (hk2.frozen (k := w.heap.size) (i := 0) hs (by simp)).trans f0
  have HK2 := Lib.hid (HK.out.trans hk2)
  clear hk hk2 HK hs
  go_wp2_with fail
  have r0 : (w2.setCell ⟨w.heap.size, 0, none⟩ (.int .u64 y)).cell? ⟨w.heap.size, 0, none⟩ = some (.int .u64 y) := by go_simp
  have HK3 := Lib.hid (HK2.out.setCell (p := ⟨w.heap.size, 0, none⟩) (.inr (Nat.le_refl _)) (.int .u64 y))
  generalize (w2.setCell ⟨w.heap.size, 0, none⟩ (.int .u64 y)) = X at *
  (try simp only [Exit.inBlock, Exit.then])
  refine bodyPost_ret (by simp [results, Tryz.results71, go_sem, r0]; rfl) rfl ?_
  exact ⟨y, rfl, HK3.out⟩
end Go.Proofs.YtlpddogcnpokfaaGreat
