/- state of a point a point behind a zero a point behind a bucket the measurement (record) -/
import Derived.Test.YtlpddogcnpokfaaGreatCtr
import Derived.Test.YtlpddogcnpokfaaGreatSc
import Derived.Test.YtlpddogcnpokfaaGreatDsc
import Derived.StillTailTactics
namespace Go.Proofs.YtlpddogcnpokfaaGreat
open Go.RowKit

/-- cells of a block beside some of them, and all other blocks, are as they were -/
structure PtBut (w w' : World) (b : Nat) (I : List Nat) : Prop where
  cell : ∀ i, i ∉ I → w'.cell? ⟨b, i, none⟩ = w.cell? ⟨b, i, none⟩
  fz : ∀ i, w'.frozen? ⟨b, i, none⟩ = w.frozen? ⟨b, i, none⟩
  kept : Kept [b] w w'

theorem PtBut.refl (w : World) (b : Nat) (I : List Nat) : PtBut w w b I := ⟨fun _ _ => rfl, fun _ => rfl, Kept.refl _ _⟩
theorem PtBut.set {w w' : World} {b : Nat} {I : List Nat} (h : PtBut w w' b I) (i : Nat) (hi : i ∈ I) (v : Value) : PtBut w (w'.setCell ⟨b, i, none⟩ v) b I := by
  refine ⟨fun j hj => ?_, fun j => ?_, h.kept.setCell (.inl (by simp)) v⟩
  · rw [← h.cell j hj]
    have : j ≠ i := by rintro rfl; exact hj hi
    go_simp
  · rw [← h.fz j]; go_simp
theorem PtBut.dr {w w1 w2 : World} {b : Nat} {I : List Nat} (h : PtBut w w1 b I) (hd : Dr w1 w2) : PtBut w w2 b I := by
  have hk := h.kept.dr hd
  obtain ⟨k, rfl⟩ := hd
  exact ⟨h.cell, h.fz, hk⟩
theorem PtBut.ofDr {w w' : World} {b : Nat} {I : List Nat} (hd : Dr w w') : PtBut w w' b I := (PtBut.refl w b I).dr hd

theorem SideAt.but {w w' : World} {b o : Nat} {st : Int} {l : List Nat} {og : Option Nat} {I : List Nat} (h : SideAt w b o st l og) (k : PtBut w w' b I) (h1 : o ∉ I) (h2 : o + 1 ∉ I) : SideAt w' b o st l og := by
  obtain ⟨hs, hr⟩ := h
  refine ⟨(k.cell o h1).trans hs, ?_⟩
  rcases hr with ⟨hv, rfl, rfl⟩ | ⟨g, F, hv, rfl, hne, hg, hgb, hlF, hF, ht⟩
  · exact .inl ⟨(k.cell _ h2).trans hv, rfl, rfl⟩
  · refine .inr ⟨g, F, (k.cell _ h2).trans hv, rfl, hne, ?_, hgb, hlF, hF, ht⟩
    rw [k.kept.block g (by
      rcases Nat.lt_or_ge g w.heap.size with h | h
      · exact h
      · rw [Array.getElem?_eq_none h] at hg; cases hg) (by simpa using hgb)]
    exact hg
theorem SideAt.lt {w : World} {b o : Nat} {st : Int} {l : List Nat} {og : Option Nat} (h : SideAt w b o st l og) {g : Nat} (hg : og = some g) : g < w.heap.size ∧ g ≠ b := by
  obtain ⟨_, hr⟩ := h
  rcases hr with ⟨_, _, rfl⟩ | ⟨g', F, _, rfl, _, hg', hgb, _⟩
  · cases hg
  · cases hg
    refine ⟨?_, hgb⟩
    rcases Nat.lt_or_ge g w.heap.size with h | h
    · exact h
    · rw [Array.getElem?_eq_none h] at hg'; cases hg'

/-- the two rows lie apart -/
def Apart (og oh : Option Nat) : Prop := ∀ g, og = some g → oh ≠ some g

/-- the other side, behind a change of one -/
theorem SideAt.other {w w' : World} {b o o2 : Nat} {st st2 : Int} {l l2 : List Nat} {og oh : Option Nat} (k : RecPost w w' b o st l og) (h : SideAt w b o2 st2 l2 oh)
    (h1 : o2 ≠ o) (h2 : o2 ≠ o + 1) (h3 : o2 + 1 ≠ o) (ha : Apart og oh) (_hb : b < w.heap.size) :
    ∃ og', SideAt w' b o st l og' ∧ SideAt w' b o2 st2 l2 oh ∧ Apart og' oh ∧ Kept (touched b og) w w' ∧ CellsBut w w' b o ∧ (og' = og ∨ ∃ g, og' = some g ∧ w.heap.size ≤ g) := by
  obtain ⟨og', a1, a2, a3, a4⟩ := k
  refine ⟨og', a1, ?_, ?_, a2, a3, a4⟩
  · have hl := fun g (e : oh = some g) => h.lt e
    obtain ⟨hs, hr⟩ := h
    refine ⟨(a3.1 o2 h1 h2).trans hs, ?_⟩
    rcases hr with ⟨hv, rfl, rfl⟩ | ⟨g, F, hv, rfl, hne, hg, hgb, hlF, hF, ht⟩
    · exact .inl ⟨(a3.1 _ h3 (by omega)).trans hv, rfl, rfl⟩
    · refine .inr ⟨g, F, (a3.1 _ h3 (by omega)).trans hv, rfl, hne, ?_, hgb, hlF, hF, ht⟩
      rw [a2.block g (hl g rfl).1 ?_]
      · exact hg
      · simp only [touched, List.mem_cons, not_or]
        refine ⟨hgb, fun hm => ?_⟩
        cases og with
        | none => simp at hm
        | some g' =>
          simp at hm
          exact ha g' rfl (by rw [hm])
  · intro g e e2
    rcases a4 with rfl | ⟨g', e3, h4⟩
    · exact ha g e e2
    · rw [e] at e3
      cases e3
      have := (h.lt e2).1
      omega

theorem div_range (a : Int) (k : Nat) (B : Int) (h1 : -B ≤ a) (h2 : a ≤ B) (hk : 0 < k) : -B ≤ a / (k : Int) ∧ a / (k : Int) ≤ B := by
  have hB : 0 ≤ B := by omega
  have hk' : (0 : Int) < (k : Int) := by omega
  refine ⟨?_, ?_⟩
  · rw [Int.le_ediv_iff_mul_le hk']
    have : B * 1 ≤ B * (k : Int) := Int.mul_le_mul_of_nonneg_left (by omega) hB
    have e : -B * (k : Int) = -(B * (k : Int)) := Int.neg_mul _ _
    omega
  · have h := Int.ediv_le_ediv hk' h2
    have h3 := Int.ediv_le_self (k : Int) hB
    omega

theorem idx_range (top x : Nat) (ht : top ≤ 20) (h0 : 0 < x) (hx : x < 2047 * 2 ^ 52) : -1130000000 ≤ Lg.idx top x ∧ Lg.idx top x ≤ 1130000000 := by
  obtain ⟨r1, r2⟩ := Lg.ex_range x h0 hx
  obtain ⟨_, _, d3⟩ := Lg.dig_range top x h0
  have hp : (2 ^ top : Nat) ≤ 2 ^ 20 := Nat.pow_le_pow_right (by decide) ht
  have hp1 : 0 < (2 ^ top : Nat) := Nat.two_pow_pos _
  unfold Lg.idx
  generalize (Lg.dig top x).1 = d at *
  generalize Lg.ex x = e at *
  generalize (2 ^ top : Nat) = p at *
  have a1 : -1074 * (p : Int) ≤ e * (p : Int) := Int.mul_le_mul_of_nonneg_right r1 (by omega)
  have a2 : e * (p : Int) ≤ 1023 * (p : Int) := Int.mul_le_mul_of_nonneg_right r2 (by omega)
  split <;> omega
theorem binW_range (top x : Nat) (S : Int) (ht : top ≤ 20) (h0 : 0 < x) (hx : x < 2047 * 2 ^ 52) : -1130000000 ≤ binW top S x ∧ binW top S x ≤ 1130000000 := by
  obtain ⟨h1, h2⟩ := idx_range top x ht h0 hx
  exact div_range _ _ _ h1 h2 (Nat.two_pow_pos _)

theorem mem_le_sum (l : List Nat) (x : Nat) (h : x ∈ l) : x ≤ l.sum := by
  induction l with
  | nil => cases h
  | cons a l ih =>
    rw [List.sum_cons]
    rcases List.mem_cons.1 h with rfl | h
    · omega
    · have := ih h; omega
theorem dsSide_le (st : Int) (l : List Nat) (d x : Nat) (h : x ∈ dsSide st l d) : x ≤ l.sum := by
  unfold dsSide at h
  split at h
  · exact mem_le_sum l x h
  · unfold dsL at h
    obtain ⟨j, _, rfl⟩ := List.mem_map.1 h
    have := grp_le l (2 ^ d) (st % ((2 ^ d : Nat) : Int)).toNat l.length j (Nat.le_refl _)
    rwa [List.take_length] at this

/-- the buckets of a point -/
structure Bk where
  sc : Int
  ps : Int
  pl : List Nat
  ns : Int
  nl : List Nat
  zc : Nat

def Bk.st (s : Bk) (neg : Bool) : Int := if neg then s.ns else s.ps
def Bk.row (s : Bk) (neg : Bool) : List Nat := if neg then s.nl else s.pl
/-- one more in a bucket -/
def Bk.put (s : Bk) (neg : Bool) (bin : Int) : Bk :=
  if neg then { s with ns := recSt s.ns s.nl bin, nl := recL s.ns s.nl bin } else { s with ps := recSt s.ps s.pl bin, pl := recL s.ps s.pl bin }
/-- at a lesser scale -/
def Bk.down (s : Bk) (d : Nat) : Bk :=
  { s with sc := s.sc - d, ps := s.ps / ((2 ^ d : Nat) : Int), pl := dsSide s.ps s.pl d, ns := s.ns / ((2 ^ d : Nat) : Int), nl := dsSide s.ns s.nl d }
/-- what a measurement makes of the buckets -/
def recBk (top : Nat) (ms : Int) (v : Nat) (s : Bk) : Bk :=
  if absW v = 0 then { s with zc := s.zc + 1 }
  else if (scOf ms (binW top s.sc (absW v)) (s.st (ltW v 0)) (s.row (ltW v 0)).length).toNat = 0 then s.put (ltW v 0) (binW top s.sc (absW v))
  else if s.sc - (scOf ms (binW top s.sc (absW v)) (s.st (ltW v 0)) (s.row (ltW v 0)).length).toNat < -10 then s
  else (s.down (scOf ms (binW top s.sc (absW v)) (s.st (ltW v 0)) (s.row (ltW v 0)).length).toNat).put (ltW v 0)
    (binW top (s.sc - (scOf ms (binW top s.sc (absW v)) (s.st (ltW v 0)) (s.row (ltW v 0)).length).toNat) (absW v))

/-- the least and the greatest one, in memory -/
def MmAt (w : World) (b : Nat) (m : Option (Nat × Nat)) : Prop :=
  match m with
  | none => (∃ cs, w.heap[b]? = some (.cells cs 209 (0, 0))) ∧ (∃ v, w.cell? ⟨b, 2, none⟩ = some v) ∧ (∃ v, w.cell? ⟨b, 3, none⟩ = some v) ∧ w.cell? ⟨b, 4, none⟩ = some (.bool false)
  | some (mn, mx) => w.cell? ⟨b, 2, none⟩ = some (U mn) ∧ w.cell? ⟨b, 3, none⟩ = some (U mx) ∧ w.cell? ⟨b, 4, none⟩ = some (.bool true)
def mmOpt (v : Nat) : Option (Nat × Nat) → Nat × Nat
  | none => (v, v)
  | some (mn, mx) => mmStep v mn mx

/-- the buckets of a point, in memory -/
structure BkAt (w : World) (d : Nat) (s : Bk) (og oh : Option Nat) : Prop where
  sc : w.cell? ⟨d, 10, none⟩ = some (.int .i32 s.sc)
  P : SideAt w d 11 s.ps s.pl og
  N : SideAt w d 13 s.ns s.nl oh
  z : w.cell? ⟨d, 15, none⟩ = some (U s.zc)
  ap : Apart og oh

theorem BkAt.but {w w' : World} {d : Nat} {s : Bk} {og oh : Option Nat} {I : List Nat} (h : BkAt w d s og oh) (k : PtBut w w' d I) (hI : ∀ i, i ∈ I → i < 10) : BkAt w' d s og oh := by
  have n : ∀ i, 10 ≤ i → i ∉ I := fun i hi hm => by have := hI i hm; omega
  exact ⟨(k.cell _ (n _ (by omega))).trans h.sc, h.P.but k (n _ (by omega)) (n _ (by omega)), h.N.but k (n _ (by omega)) (n _ (by omega)), (k.cell _ (n _ (by omega))).trans h.z, h.ap⟩

theorem upd127 (b v : Nat) (m : Option (Nat × Nat)) (w : World) (h : MmAt w b m) (f : ∀ i, w.frozen? ⟨b, i, none⟩ = false) :
    Calls Tryz.prog 127 #[.pointer (some ⟨b, 2, none⟩), .float .f64 v] w fun e w' => e = .returned (.tuple #[]) ∧ MmAt w' b (some (mmOpt v m)) ∧ PtBut w w' b [2, 3, 4] := by
  cases m with
  | none =>
    obtain ⟨⟨cs, hb⟩, ⟨v0, h0⟩, ⟨v1, h1⟩, h2⟩ := h
    refine (update127_first b v cs v0 v1 w hb h0 h1 h2 (f _) (f _) (f _)).mono ?_
    rintro e w' ⟨he, rfl⟩
    refine ⟨he, ⟨?_, ?_, ?_⟩, (((PtBut.refl _ _ _).set 2 (by simp) _).set 3 (by simp) _).set 4 (by simp) _⟩
    · go_simp
    · go_simp
    · go_simp
  | some p =>
    obtain ⟨mn, mx⟩ := p
    obtain ⟨h0, h1, h2⟩ := h
    refine (update127_more b v mn mx w h0 h1 h2 (f _) (f _)).mono ?_
    rintro e w' ⟨he, rfl⟩
    refine ⟨he, ?_⟩
    simp only [mmOpt, mmStep]
    by_cases c1 : ltW v mn = true
    · rw [if_pos c1, if_pos c1]
      refine ⟨⟨?_, ?_, ?_⟩, (PtBut.refl _ _ _).set 2 (by simp) _⟩
      · go_simp
      · go_simp
      · go_simp
    · rw [if_neg c1, if_neg c1]
      by_cases c2 : ltW mx v = true
      · rw [if_pos c2, if_pos c2]
        refine ⟨⟨?_, ?_, ?_⟩, (PtBut.refl _ _ _).set 3 (by simp) _⟩
        · go_simp
        · go_simp
        · go_simp
      · rw [if_neg c2, if_neg c2]
        exact ⟨⟨h0, h1, h2⟩, PtBut.refl _ _ _⟩

theorem sum128 (b v fb : Nat) (ni : Int) (w : World) (h0 : w.cell? ⟨b, 5, none⟩ = some (U fb)) (h1 : w.cell? ⟨b, 6, none⟩ = some (.int .i64 ni))
    (f : ∀ i, w.frozen? ⟨b, i, none⟩ = false) (hfb : fb < 18446744073709551616) :
    Calls Tryz.prog 128 #[.pointer (some ⟨b, 5, none⟩), .float .f64 v] w fun e w' => e = .returned (.tuple #[]) ∧
      ∃ fb' ni', fb' < 18446744073709551616 ∧ SumStep v fb ni fb' ni' ∧ w'.cell? ⟨b, 5, none⟩ = some (U fb') ∧ w'.cell? ⟨b, 6, none⟩ = some (.int .i64 ni') ∧ PtBut w w' b [5, 6] := by
  refine (add128 b 5 v fb ni w h0 h1 (f _) (f _) hfb).mono ?_
  rintro e w' ⟨he, fb', ni', q1, q2, q3⟩
  refine ⟨he, fb', ni', q1, q2, ?_, ?_, (((PtBut.refl _ _ _).set 5 (by simp) _).set 6 (by simp) _).dr q3⟩
  · obtain ⟨k, rfl⟩ := q3; go_simp
  · obtain ⟨k, rfl⟩ := q3; go_simp

theorem addI119 (a : Addr) (x n : Int) (w : World) (hc : w.cell? a = some (.int .i32 x)) (hf : w.frozen? a = false) (h1 : -2147483648 ≤ x + n) (h2 : x + n ≤ 2147483647) :
    Calls Tryz.prog 119 #[.pointer (some a), .int .i32 n] w fun e w' => e = .returned (.int .i32 (x + n)) ∧ w.setCell a (.int .i32 (x + n)) = w' := by
  have hw : IntKind.i32.wrap (x + n) = x + n := IntWalk.i32_in _ (by omega)
  go_enter Tryz.func119, Tryz.ntmps119
  go_wp2
  go_ret
  exact ⟨rfl, rfl⟩
theorem load79 (a : Addr) (n : Int) (w : World) (hc : w.cell? a = some (.int .i32 n)) :
    Calls Tryz.prog 79 #[.pointer (some a)] w fun e w' => e = .returned (.int .i32 n) ∧ w = w' := by
  go_enter Tryz.func79, Tryz.ntmps79
  go_wp2
  go_ret
  exact ⟨rfl, rfl⟩
end Go.Proofs.YtlpddogcnpokfaaGreat
namespace Go.Proofs.YtlpddogcnpokfaaGreat
open Go.RowKit

/-- a point of an exponential histogram, in memory -/
structure DpAt (w : World) (d : Nat) (mm : Option (Nat × Nat)) (fb : Nat) (ni ms : Int) (s : Bk) (og oh : Option Nat) : Prop where
  lt : d < w.heap.size
  fz : ∀ i, w.frozen? ⟨d, i, none⟩ = false
  mm : MmAt w d mm
  c5 : w.cell? ⟨d, 5, none⟩ = some (U fb)
  c6 : w.cell? ⟨d, 6, none⟩ = some (.int .i64 ni)
  c7 : w.cell? ⟨d, 7, none⟩ = some (.int .i64 ms)
  c8 : w.cell? ⟨d, 8, none⟩ = some (.bool false)
  c9 : w.cell? ⟨d, 9, none⟩ = some (.bool false)
  fbl : fb < 18446744073709551616
  bk : BkAt w d s og oh

def Newer (w : World) (og og' : Option Nat) : Prop := og' = og ∨ ∃ g, og' = some g ∧ w.heap.size ≤ g
/-- a point behind a measurement -/
def DpPost (w w' : World) (d v : Nat) (mm : Option (Nat × Nat)) (fb : Nat) (ni ms : Int) (s : Bk) (og oh : Option Nat) : Prop :=
  ∃ fb' ni' og' oh', SumStep v fb ni fb' ni' ∧ DpAt w' d (some (mmOpt v mm)) fb' ni' ms s og' oh' ∧ Kept (d :: (og.toList ++ oh.toList)) w w' ∧ Newer w og og' ∧ Newer w oh oh' ∧
    ∀ i, i < 2 ∨ 16 ≤ i → w'.cell? ⟨d, i, none⟩ = w.cell? ⟨d, i, none⟩

/-- what the first part of 'record' leaves -/
structure DpMid (w w2 : World) (d v : Nat) (mm : Option (Nat × Nat)) (fb : Nat) (ni ms : Int) (s : Bk) (og oh : Option Nat) : Prop where
  was : DpAt w d mm fb ni ms s og oh
  now : ∃ fb' ni', SumStep v fb ni fb' ni' ∧ DpAt w2 d (some (mmOpt v mm)) fb' ni' ms s og oh
  but : PtBut w w2 d [2, 3, 4, 5, 6]

theorem PtBut.mono {w w' : World} {b : Nat} {I J : List Nat} (h : PtBut w w' b I) (hs : ∀ i, i ∈ I → i ∈ J) : PtBut w w' b J := ⟨fun i hi => h.cell i fun hm => hi (hs i hm), h.fz, h.kept⟩
theorem PtBut.trans {w w1 w2 : World} {b : Nat} {I : List Nat} (h : PtBut w w1 b I) (k : PtBut w1 w2 b I) : PtBut w w2 b I :=
  ⟨fun i hi => (k.cell i hi).trans (h.cell i hi), fun i => (k.fz i).trans (h.fz i), h.kept.trans k.kept⟩

theorem MmAt.but {w w' : World} {b : Nat} {m : Nat × Nat} {I : List Nat} (h : MmAt w b (some m)) (k : PtBut w w' b I) (hI : ∀ i, i ∈ I → 5 ≤ i) : MmAt w' b (some m) := by
  have n : ∀ i, i < 5 → i ∉ I := fun i hi hm => by have := hI i hm; omega
  obtain ⟨a, b1, c⟩ := h
  exact ⟨(k.cell _ (n _ (by omega))).trans a, (k.cell _ (n _ (by omega))).trans b1, (k.cell _ (n _ (by omega))).trans c⟩

theorem DpMid.make {w w1 w2 : World} {d v : Nat} {mm : Option (Nat × Nat)} {fb : Nat} {ni ms : Int} {s : Bk} {og oh : Option Nat} (h : DpAt w d mm fb ni ms s og oh)
    (m1 : MmAt w1 d (some (mmOpt v mm))) (b1 : PtBut w w1 d [2, 3, 4]) {fb' : Nat} {ni' : Int} (q1 : fb' < 18446744073709551616) (q2 : SumStep v fb ni fb' ni')
    (q5 : w2.cell? ⟨d, 5, none⟩ = some (U fb')) (q6 : w2.cell? ⟨d, 6, none⟩ = some (.int .i64 ni')) (b2 : PtBut w1 w2 d [5, 6]) : DpMid w w2 d v mm fb ni ms s og oh := by
  have hb : PtBut w w2 d [2, 3, 4, 5, 6] := (b1.mono (by simp)).trans (b2.mono (by simp))
  refine ⟨h, ⟨fb', ni', q2, ?_⟩, hb⟩
  refine ⟨Nat.lt_of_lt_of_le h.lt hb.kept.size, fun i => (hb.fz i).trans (h.fz i), m1.but b2 (by simp), q5, q6, (hb.cell _ (by decide)).trans h.c7, (hb.cell _ (by decide)).trans h.c8, (hb.cell _ (by decide)).trans h.c9, q1, h.bk.but hb (by simp)⟩

/-- the end of 'record': the buckets alone have changed -/
theorem DpMid.fin {w w2 w3 : World} {d v : Nat} {mm : Option (Nat × Nat)} {fb : Nat} {ni ms : Int} {s s' : Bk} {og oh og' oh' : Option Nat} (h : DpMid w w2 d v mm fb ni ms s og oh)
    (hb : BkAt w3 d s' og' oh') (hk : Kept (d :: (og.toList ++ oh.toList)) w2 w3) (hc : ∀ i, i < 10 ∨ 16 ≤ i → w3.cell? ⟨d, i, none⟩ = w2.cell? ⟨d, i, none⟩) (hf : ∀ i, w3.frozen? ⟨d, i, none⟩ = w2.frozen? ⟨d, i, none⟩)
    (n1 : Newer w2 og og') (n2 : Newer w2 oh oh') : DpPost w w3 d v mm fb ni ms s' og oh := by
  obtain ⟨wa, ⟨fb', ni', q2, n⟩, bt⟩ := h
  have hs := bt.kept.size
  refine ⟨fb', ni', og', oh', q2, ?_, ?_, ?_, ?_, ?_⟩
  · refine ⟨Nat.lt_of_lt_of_le n.lt hk.size, fun i => (hf i).trans (n.fz i), ?_, (hc _ (by omega)).trans n.c5, (hc _ (by omega)).trans n.c6, (hc _ (by omega)).trans n.c7, (hc _ (by omega)).trans n.c8, (hc _ (by omega)).trans n.c9, n.fbl, hb⟩
    obtain ⟨a, b1, c⟩ := n.mm
    exact ⟨(hc _ (by omega)).trans a, (hc _ (by omega)).trans b1, (hc _ (by omega)).trans c⟩
  · exact (bt.kept.mono (by simp)).trans hk
  · rcases n1 with h | ⟨g, h1, h2⟩
    · exact .inl h
    · exact .inr ⟨g, h1, by omega⟩
  · rcases n2 with h | ⟨g, h1, h2⟩
    · exact .inl h
    · exact .inr ⟨g, h1, by omega⟩
  · intro i hi
    rw [hc i (by omega)]
    exact bt.cell i (by simp; omega)

theorem zero_word (v : Nat) (h : absW v = 0) : (FloatKind.f64.format.order (absW v) 0 == some .eq) = true := by rw [h]; decide +kernel

set_option maxHeartbeats 400000 in
theorem rec96_zero (d v : Nat) (mm : Option (Nat × Nat)) (fb : Nat) (ni ms : Int) (s : Bk) (og oh : Option Nat) (w : World) (h : DpAt w d mm fb ni ms s og oh)
    (hv : v < 18446744073709551616) (hz : absW v = 0) (hzc : s.zc < 4611686018427387904) :
    Calls Tryz.prog 96 #[.pointer (some ⟨d, 0, none⟩), .float .f64 v] w fun e w' => e = .returned (.tuple #[]) ∧ DpPost w w' d v mm fb ni ms { s with zc := s.zc + 1 } og oh := by
  have hze := zero_word v hz
  have c8 := h.c8
  have HZ := Lib.hid hz
  clear hz
  have H := Lib.hid h
  clear h
  go_enter Tryz.func96, Tryz.ntmps96
  go_wp2_with fail
  refine (upd127 _ _ _ _ H.out.mm H.out.fz).mono ?_; rintro e w1 ⟨rfl, hm1, hb1⟩
  have c9 : w1.cell? ⟨d, 9, none⟩ = some (.bool false) := (hb1.cell _ (by decide)).trans H.out.c9
  have M1 := Lib.hid (And.intro hm1 hb1)
  clear hm1 hb1
  go_wp2_with fail
  refine (sum128 d v fb ni _ ((M1.out.2.cell _ (by decide)).trans H.out.c5) ((M1.out.2.cell _ (by decide)).trans H.out.c6) (fun i => (M1.out.2.fz i).trans (H.out.fz i)) H.out.fbl).mono ?_
  rintro e w2 ⟨rfl, fb', ni', q1, q2, q5, q6, hb2⟩
  have M := Lib.hid (DpMid.make H.out M1.out.1 M1.out.2 q1 q2 q5 q6 hb2)
  clear q1 q2 q5 q6 hb2
  go_wp2_with fail
  refine (abs12 v _ hv).mono ?_; rintro e w' ⟨rfl, rfl⟩
  go_wp2_with fail
  obtain ⟨fb2, ni2, -, N⟩ := M.out.now
  refine (add116 _ (s.zc : Int) 1 _ N.bk.z (N.fz _)).mono ?_; rintro e w3 ⟨rfl, rfl⟩
  go_wp2_with fail
  (try simp only [Exit.inBlock, Exit.then])
  refine bodyPost_ret (results_none rfl _ _ _) rfl ?_
  refine ⟨rfl, ?_⟩
  have he : IntKind.u64.wrap ((s.zc : Int) + 1) = ((s.zc + 1 : Nat) : Int) := by rw [IntKind.wrap_u64]; omega
  rw [he]
  have K : PtBut w2 (w2.setCell ⟨d, 15, none⟩ (U (s.zc + 1))) d [15] := (PtBut.refl _ _ _).set 15 (by simp) _
  refine M.out.fin (og' := og) (oh' := oh) ?_ (K.kept.mono (by simp)) (fun i hi => K.cell i (by simp; omega)) K.fz (.inl rfl) (.inl rfl)
  refine ⟨(K.cell _ (by decide)).trans N.bk.sc, N.bk.P.but K (by decide) (by decide), N.bk.N.but K (by decide) (by decide), ?_, N.bk.ap⟩
  have z := N.bk.z
  show (w2.setCell ⟨d, 15, none⟩ (U (s.zc + 1))).cell? ⟨d, 15, none⟩ = some (U (s.zc + 1))
  generalize U (s.zc + 1) = x
  go_simp
end Go.Proofs.YtlpddogcnpokfaaGreat
namespace Go.Proofs.YtlpddogcnpokfaaGreat
open Go.RowKit

theorem SideAt.slice {w : World} {b o : Nat} {st : Int} {l : List Nat} {og : Option Nat} (h : SideAt w b o st l og) : ∃ ad c, w.cell? ⟨b, o + 1, none⟩ = some (.slice ad l.length c) := by
  obtain ⟨_, hr⟩ := h
  rcases hr with ⟨hv, rfl, rfl⟩ | ⟨g, F, hv, _⟩
  · exact ⟨none, 0, hv⟩
  · exact ⟨_, _, hv⟩
theorem DpMid.dr {w w2 w3 : World} {d v : Nat} {mm : Option (Nat × Nat)} {fb : Nat} {ni ms : Int} {s : Bk} {og oh : Option Nat} (h : DpMid w w2 d v mm fb ni ms s og oh) (hd : Dr w2 w3) :
    DpMid w w3 d v mm fb ni ms s og oh := by
  obtain ⟨wa, ⟨fb', ni', q2, n⟩, bt⟩ := h
  have k : PtBut w2 w3 d [] := PtBut.ofDr hd
  have c : ∀ i, i ∉ ([] : List Nat) := by simp
  exact ⟨wa, ⟨fb', ni', q2, Nat.lt_of_lt_of_le n.lt k.kept.size, fun i => (k.fz i).trans (n.fz i), n.mm.but k (by simp), (k.cell _ (c _)).trans n.c5, (k.cell _ (c _)).trans n.c6, (k.cell _ (c _)).trans n.c7,
    (k.cell _ (c _)).trans n.c8, (k.cell _ (c _)).trans n.c9, n.fbl, n.bk.but k (by simp)⟩, bt.trans (k.mono (by simp))⟩

theorem Kept.trans2 {S S' : List Nat} {a b c : World} (h : Kept S a b) (k : Kept S' b c) (hs : ∀ i, i ∈ S' → i ∈ S ∨ a.heap.size ≤ i) : Kept S a c :=
  ⟨k.os.trans h.os, k.tape.trans h.tape, k.output.trans h.output, Nat.le_trans h.size k.size, fun i hi hn =>
    (k.block i (Nat.lt_of_lt_of_le hi h.size) fun hm => (hs i hm).elim hn (fun h => by omega)).trans (h.block i hi hn)⟩

/-- a change of the buckets of a point -/
structure BkStep (w w' : World) (d : Nat) (og oh : Option Nat) (s' : Bk) (og' oh' : Option Nat) : Prop where
  now : BkAt w' d s' og' oh'
  kept : Kept (d :: (og.toList ++ oh.toList)) w w'
  cells : ∀ i, i < 10 ∨ 16 ≤ i → w'.cell? ⟨d, i, none⟩ = w.cell? ⟨d, i, none⟩
  fz : ∀ i, w'.frozen? ⟨d, i, none⟩ = w.frozen? ⟨d, i, none⟩
  n1 : Newer w og og'
  n2 : Newer w oh oh'

theorem Newer.trans {w w' : World} {a b c : Option Nat} (h : Newer w a b) (k : Newer w' b c) (hs : w.heap.size ≤ w'.heap.size) : Newer w a c := by
  rcases k with rfl | ⟨g, h1, h2⟩
  · exact h
  · exact .inr ⟨g, h1, by omega⟩
theorem Newer.mem {w : World} {a b : Option Nat} (h : Newer w a b) {i : Nat} (hi : i ∈ b.toList) : i ∈ a.toList ∨ w.heap.size ≤ i := by
  rcases h with rfl | ⟨g, rfl, h2⟩
  · exact .inl hi
  · simp at hi; exact .inr (by omega)
theorem BkStep.trans {w w1 w2 : World} {d : Nat} {og oh og1 oh1 og2 oh2 : Option Nat} {s1 s2 : Bk} (h : BkStep w w1 d og oh s1 og1 oh1) (k : BkStep w1 w2 d og1 oh1 s2 og2 oh2) : BkStep w w2 d og oh s2 og2 oh2 := by
  refine ⟨k.now, h.kept.trans2 k.kept ?_, fun i hi => (k.cells i hi).trans (h.cells i hi), fun i => (k.fz i).trans (h.fz i), h.n1.trans k.n1 h.kept.size, h.n2.trans k.n2 h.kept.size⟩
  intro i hi
  simp only [List.mem_cons, List.mem_append] at hi ⊢
  rcases hi with rfl | hi | hi
  · exact .inl (.inl rfl)
  · rcases h.n1.mem hi with h | h
    · exact .inl (.inr (.inl h))
    · exact .inr h
  · rcases h.n2.mem hi with h | h
    · exact .inl (.inr (.inr h))
    · exact .inr h
theorem BkStep.set {w : World} {d : Nat} {og oh : Option Nat} {s : Bk} (h : BkAt w d s og oh) (S : Int) : BkStep w (w.setCell ⟨d, 10, none⟩ (.int .i32 S)) d og oh { s with sc := S } og oh := by
  have K : PtBut w (w.setCell ⟨d, 10, none⟩ (.int .i32 S)) d [10] := (PtBut.refl _ _ _).set 10 (by simp) _
  refine ⟨⟨?_, h.P.but K (by decide) (by decide), h.N.but K (by decide) (by decide), (K.cell _ (by decide)).trans h.z, h.ap⟩, K.kept.mono (by simp), fun i hi => K.cell i (by simp; omega), K.fz, .inl rfl, .inl rfl⟩
  have z := h.sc
  show (w.setCell ⟨d, 10, none⟩ (.int .i32 S)).cell? ⟨d, 10, none⟩ = some (.int .i32 S)
  go_simp
theorem BkStep.recP {w w' : World} {d : Nat} {og oh : Option Nat} {s : Bk} {st : Int} {l : List Nat} (h : BkAt w d s og oh) (hd : d < w.heap.size) (k : RecPost w w' d 11 st l og) :
    ∃ og', BkStep w w' d og oh { s with ps := st, pl := l } og' oh := by
  obtain ⟨og', a1, a2, a3, a4, a5, a6⟩ := SideAt.other k h.N (by decide) (by decide) (by decide) h.ap hd
  refine ⟨og', ⟨(a5.1 _ (by decide) (by decide)).trans h.sc, a1, a2, (a5.1 _ (by decide) (by decide)).trans h.z, a3⟩, a4.mono ?_, fun i hi => a5.1 i (by omega) (by omega), a5.2, a6, .inl rfl⟩
  intro i hi
  simp only [touched, List.mem_cons, List.mem_append] at hi ⊢
  rcases hi with h | h
  · exact .inl (.inl h)
  · exact .inl (.inr (.inl h))
theorem BkStep.recN {w w' : World} {d : Nat} {og oh : Option Nat} {s : Bk} {st : Int} {l : List Nat} (h : BkAt w d s og oh) (hd : d < w.heap.size) (k : RecPost w w' d 13 st l oh) :
    ∃ oh', BkStep w w' d og oh { s with ns := st, nl := l } og oh' := by
  obtain ⟨oh', a1, a2, a3, a4, a5, a6⟩ := SideAt.other k h.P (by decide) (by decide) (by decide) (fun g e e2 => h.ap g e2 e) hd
  refine ⟨oh', ⟨(a5.1 _ (by decide) (by decide)).trans h.sc, a2, a1, (a5.1 _ (by decide) (by decide)).trans h.z, fun g e e2 => a3 g e2 e⟩, a4.mono ?_, fun i hi => a5.1 i (by omega) (by omega), a5.2, .inl rfl, a6⟩
  intro i hi
  simp only [touched, List.mem_cons, List.mem_append] at hi ⊢
  rcases hi with h | h
  · exact .inl (.inl h)
  · exact .inl (.inr (.inr h))
theorem DpMid.step {w w2 w3 : World} {d v : Nat} {mm : Option (Nat × Nat)} {fb : Nat} {ni ms : Int} {s s' : Bk} {og oh og' oh' : Option Nat} (h : DpMid w w2 d v mm fb ni ms s og oh)
    (k : BkStep w2 w3 d og oh s' og' oh') : DpPost w w3 d v mm fb ni ms s' og oh := h.fin k.now k.kept k.cells k.fz k.n1 k.n2

/-- what 'record' asks of a number and of a point -/
structure RecPre (top v : Nat) (ms : Int) (s : Bk) : Prop where
  hv : v < 18446744073709551616
  hx : absW v ≠ 0
  hx2 : absW v < 2047 * 2 ^ 52
  hn : Lg.near top (absW v) = false
  ht : top ≤ 20
  hS : s.sc ≤ top
  hS1 : -10 ≤ s.sc
  m1 : 1 ≤ ms
  m2 : ms ≤ 1000
  p1 : -1130000000 ≤ s.ps
  p2 : s.ps ≤ 1130000000
  n1 : -1130000000 ≤ s.ns
  n2 : s.ns ≤ 1130000000
  pl : s.pl.length ≤ 1000
  nl : s.nl.length ≤ 1000
  pm : s.pl.sum < 4611686018427387904
  nm : s.nl.sum < 4611686018427387904

theorem RecPre.bin {top v : Nat} {ms : Int} {s : Bk} (h : RecPre top v ms s) (w : World) (d : Nat) (S : Int) (hS : S ≤ top) (hS1 : -10 ≤ S) (hc : w.cell? ⟨d, 10, none⟩ = some (.int .i32 S)) :
    Calls Tryz.prog 129 #[.pointer (some ⟨d, 0, none⟩), .float .f64 (absW v)] w fun e w' => e = .returned (.int .i32 (binW top S (absW v))) ∧ Dr w w' :=
  (getBin129 d 0 (absW v) S top w (Nat.pos_of_ne_zero h.hx) h.hx2 hS hS1 h.ht h.hn hc).mono fun _ _ ⟨a, k, b⟩ => ⟨a, k, b.symm⟩

set_option maxHeartbeats 1000000 in
theorem rec96_putP (d v top : Nat) (mm : Option (Nat × Nat)) (fb : Nat) (ni ms : Int) (s : Bk) (og oh : Option Nat) (w : World) (h : DpAt w d mm fb ni ms s og oh)
    (R : RecPre top v ms s) (hneg : ltW v 0 = false) (hsc : scOf ms (binW top s.sc (absW v)) s.ps s.pl.length = 0) (hlen : (recL s.ps s.pl (binW top s.sc (absW v))).length ≤ 1000) :
    Calls Tryz.prog 96 #[.pointer (some ⟨d, 0, none⟩), .float .f64 v] w fun e w' => e = .returned (.tuple #[]) ∧ DpPost w w' d v mm fb ni ms (s.put false (binW top s.sc (absW v))) og oh := by
  have hze := order_pos_ne_zero (Nat.pos_of_ne_zero R.hx) R.hx2
  have hng : (FloatKind.f64.format.order v 0 == some .lt) = false := hneg
  have c8 := h.c8
  have HSC := Lib.hid hsc
  have HLEN := Lib.hid hlen
  clear hsc hneg hlen
  have R := Lib.hid R
  have H := Lib.hid h
  clear h
  go_enter Tryz.func96, Tryz.ntmps96
  go_wp2_with fail
  refine (upd127 _ _ _ _ H.out.mm H.out.fz).mono ?_; rintro e w1 ⟨rfl, hm1, hb1⟩
  have c9 : w1.cell? ⟨d, 9, none⟩ = some (.bool false) := (hb1.cell _ (by decide)).trans H.out.c9
  have M1 := Lib.hid (And.intro hm1 hb1)
  clear hm1 hb1
  go_wp2_with fail
  refine (sum128 d v fb ni _ ((M1.out.2.cell _ (by decide)).trans H.out.c5) ((M1.out.2.cell _ (by decide)).trans H.out.c6) (fun i => (M1.out.2.fz i).trans (H.out.fz i)) H.out.fbl).mono ?_
  rintro e w2 ⟨rfl, fb', ni', q1, q2, q5, q6, hb2⟩
  have M := Lib.hid (DpMid.make H.out M1.out.1 M1.out.2 q1 q2 q5 q6 hb2)
  clear q1 q2 q5 q6 hb2
  go_wp2_with fail
  refine (abs12 v _ R.out.hv).mono ?_; rintro e w' ⟨rfl, rfl⟩
  go_wp2_with fail
  obtain ⟨fb2, ni2, q2, N⟩ := M.out.now
  have N := Lib.hid N
  clear q2
  refine (R.out.bin _ d s.sc R.out.hS R.out.hS1 N.out.bk.sc).mono ?_; rintro e w3 ⟨rfl, hd3⟩
  have M3 := Lib.hid (M.out.dr hd3)
  clear hd3 N
  obtain ⟨fb3, ni3, q2, N⟩ := M3.out.now
  clear q2
  obtain ⟨e0, e1, hsl⟩ := N.bk.P.slice
  have hst := N.bk.P.1
  have N := Lib.hid N
  obtain ⟨r1, r2⟩ := Lib.hid (binW_range top (absW v) s.sc R.out.ht (Nat.pos_of_ne_zero R.out.hx) R.out.hx2) |>.out
  have RB := Lib.hid (And.intro r1 r2)
  clear r1 r2
  generalize hB : binW top s.sc (absW v) = B at *
  have HB := Lib.hid hB
  clear hB
  go_wp2_with fail
  go_quiet (first | (go_at_call 130; exact quiet_same (scaleChange130 d 0 ms B s.ps s.pl.length _ N.out.c7 R.out.m1 R.out.m2 (by have := RB.out; omega) (by have := RB.out; omega) (by have := R.out.p1; omega) (by have := R.out.p2; omega) (by omega) (by have := R.out.pl; omega))))
  have hsc := HSC.out
  (try rw [hsc])
  generalize hW : w3.drewN _ = w4
  have hd4 : Dr w3 w4 := ⟨_, hW⟩
  have M4 := Lib.hid (M3.out.dr hd4)
  clear hW hd4 M3 N c9 hst hsl
  go_wp2_with fail
  clear hsc
  obtain ⟨fb4, ni4, q2, N⟩ := M4.out.now
  clear q2
  refine (record121 d 11 B s.ps s.pl og w4 N.bk.P N.lt (N.fz _) (N.fz _) R.out.p1 R.out.p2 RB.out.1 RB.out.2 HLEN.out (fun x hx => Nat.lt_of_le_of_lt (mem_le_sum _ _ hx) R.out.pm)).mono ?_
  rintro e w5 ⟨rfl, hp⟩
  obtain ⟨og', hs⟩ := BkStep.recP N.bk N.lt hp
  have FIN := Lib.hid (M4.out.step hs)
  clear hs hp N
  go_wp2_with fail
  go_end0
  rw [HB.out]
  exact ⟨rfl, FIN.out⟩
set_option maxHeartbeats 1000000 in
theorem rec96_putN (d v top : Nat) (mm : Option (Nat × Nat)) (fb : Nat) (ni ms : Int) (s : Bk) (og oh : Option Nat) (w : World) (h : DpAt w d mm fb ni ms s og oh)
    (R : RecPre top v ms s) (hneg : ltW v 0 = true) (hsc : scOf ms (binW top s.sc (absW v)) s.ns s.nl.length = 0) (hlen : (recL s.ns s.nl (binW top s.sc (absW v))).length ≤ 1000) :
    Calls Tryz.prog 96 #[.pointer (some ⟨d, 0, none⟩), .float .f64 v] w fun e w' => e = .returned (.tuple #[]) ∧ DpPost w w' d v mm fb ni ms (s.put true (binW top s.sc (absW v))) og oh := by
  have hze := order_pos_ne_zero (Nat.pos_of_ne_zero R.hx) R.hx2
  have hng : (FloatKind.f64.format.order v 0 == some .lt) = true := hneg
  have c8 := h.c8
  have HSC := Lib.hid hsc
  have HLEN := Lib.hid hlen
  clear hsc hneg hlen
  have R := Lib.hid R
  have H := Lib.hid h
  clear h
  go_enter Tryz.func96, Tryz.ntmps96
  go_wp2_with fail
  refine (upd127 _ _ _ _ H.out.mm H.out.fz).mono ?_; rintro e w1 ⟨rfl, hm1, hb1⟩
  have c9 : w1.cell? ⟨d, 9, none⟩ = some (.bool false) := (hb1.cell _ (by decide)).trans H.out.c9
  have M1 := Lib.hid (And.intro hm1 hb1)
  clear hm1 hb1
  go_wp2_with fail
  refine (sum128 d v fb ni _ ((M1.out.2.cell _ (by decide)).trans H.out.c5) ((M1.out.2.cell _ (by decide)).trans H.out.c6) (fun i => (M1.out.2.fz i).trans (H.out.fz i)) H.out.fbl).mono ?_
  rintro e w2 ⟨rfl, fb', ni', q1, q2, q5, q6, hb2⟩
  have M := Lib.hid (DpMid.make H.out M1.out.1 M1.out.2 q1 q2 q5 q6 hb2)
  clear q1 q2 q5 q6 hb2
  go_wp2_with fail
  refine (abs12 v _ R.out.hv).mono ?_; rintro e w' ⟨rfl, rfl⟩
  go_wp2_with fail
  obtain ⟨fb2, ni2, q2, N⟩ := M.out.now
  have N := Lib.hid N
  clear q2
  refine (R.out.bin _ d s.sc R.out.hS R.out.hS1 N.out.bk.sc).mono ?_; rintro e w3 ⟨rfl, hd3⟩
  have M3 := Lib.hid (M.out.dr hd3)
  clear hd3 N
  obtain ⟨fb3, ni3, q2, N⟩ := M3.out.now
  clear q2
  obtain ⟨e0, e1, hsl⟩ := N.bk.N.slice
  have hst := N.bk.N.1
  have N := Lib.hid N
  obtain ⟨r1, r2⟩ := Lib.hid (binW_range top (absW v) s.sc R.out.ht (Nat.pos_of_ne_zero R.out.hx) R.out.hx2) |>.out
  have RB := Lib.hid (And.intro r1 r2)
  clear r1 r2
  generalize hB : binW top s.sc (absW v) = B at *
  have HB := Lib.hid hB
  clear hB
  go_wp2_with fail
  go_quiet (first | (go_at_call 130; exact quiet_same (scaleChange130 d 0 ms B s.ns s.nl.length _ N.out.c7 R.out.m1 R.out.m2 (by have := RB.out; omega) (by have := RB.out; omega) (by have := R.out.n1; omega) (by have := R.out.n2; omega) (by omega) (by have := R.out.nl; omega))))
  have hsc := HSC.out
  (try rw [hsc])
  generalize hW : w3.drewN _ = w4
  have hd4 : Dr w3 w4 := ⟨_, hW⟩
  have M4 := Lib.hid (M3.out.dr hd4)
  clear hW hd4 M3 N c9 hst hsl
  go_wp2_with fail
  clear hsc
  obtain ⟨fb4, ni4, q2, N⟩ := M4.out.now
  clear q2
  refine (record121 d 13 B s.ns s.nl oh w4 N.bk.N N.lt (N.fz _) (N.fz _) R.out.n1 R.out.n2 RB.out.1 RB.out.2 HLEN.out (fun x hx => Nat.lt_of_le_of_lt (mem_le_sum _ _ hx) R.out.nm)).mono ?_
  rintro e w5 ⟨rfl, hp⟩
  obtain ⟨oh', hs⟩ := BkStep.recN N.bk N.lt hp
  have FIN := Lib.hid (M4.out.step hs)
  clear hs hp N
  go_wp2_with fail
  go_end0
  rw [HB.out]
  exact ⟨rfl, FIN.out⟩
end Go.Proofs.YtlpddogcnpokfaaGreat
namespace Go.Proofs.YtlpddogcnpokfaaGreat
open Go.RowKit
set_option maxHeartbeats 1000000 in
theorem rec96_tooP (d v top k : Nat) (mm : Option (Nat × Nat)) (fb : Nat) (ni ms : Int) (s : Bk) (og oh : Option Nat) (w : World) (h : DpAt w d mm fb ni ms s og oh)
    (R : RecPre top v ms s) (hneg : ltW v 0 = false) (hsc : scOf ms (binW top s.sc (absW v)) s.ps s.pl.length = (k : Int)) (hk : 0 < k) (hlo : s.sc - k < -10) :
    Calls Tryz.prog 96 #[.pointer (some ⟨d, 0, none⟩), .float .f64 v] w fun e w' => e = .returned (.tuple #[]) ∧ DpPost w w' d v mm fb ni ms s og oh := by
  have hze := order_pos_ne_zero (Nat.pos_of_ne_zero R.hx) R.hx2
  have hng : (FloatKind.f64.format.order v 0 == some .lt) = false := hneg
  have c8 := h.c8
  have HSC := Lib.hid hsc
  have hk31 : k ≤ 31 := by have := (scOf_le ms (binW top s.sc (absW v)) s.ps s.pl.length).2; omega
  clear hsc hneg
  have R := Lib.hid R
  have H := Lib.hid h
  clear h
  go_enter Tryz.func96, Tryz.ntmps96
  go_wp2_with fail
  refine (upd127 _ _ _ _ H.out.mm H.out.fz).mono ?_; rintro e w1 ⟨rfl, hm1, hb1⟩
  have c9 : w1.cell? ⟨d, 9, none⟩ = some (.bool false) := (hb1.cell _ (by decide)).trans H.out.c9
  have M1 := Lib.hid (And.intro hm1 hb1)
  clear hm1 hb1
  go_wp2_with fail
  refine (sum128 d v fb ni _ ((M1.out.2.cell _ (by decide)).trans H.out.c5) ((M1.out.2.cell _ (by decide)).trans H.out.c6) (fun i => (M1.out.2.fz i).trans (H.out.fz i)) H.out.fbl).mono ?_
  rintro e w2 ⟨rfl, fb', ni', q1, q2, q5, q6, hb2⟩
  have M := Lib.hid (DpMid.make H.out M1.out.1 M1.out.2 q1 q2 q5 q6 hb2)
  clear q1 q2 q5 q6 hb2
  go_wp2_with fail
  refine (abs12 v _ R.out.hv).mono ?_; rintro e w' ⟨rfl, rfl⟩
  go_wp2_with fail
  obtain ⟨fb2, ni2, q2, N⟩ := M.out.now
  have N := Lib.hid N
  clear q2
  refine (R.out.bin _ d s.sc R.out.hS R.out.hS1 N.out.bk.sc).mono ?_; rintro e w3 ⟨rfl, hd3⟩
  have M3 := Lib.hid (M.out.dr hd3)
  clear hd3 N
  obtain ⟨fb3, ni3, q2, N⟩ := M3.out.now
  clear q2
  obtain ⟨e0, e1, hsl⟩ := N.bk.P.slice
  have hst := N.bk.P.1
  have N := Lib.hid N
  obtain ⟨r1, r2⟩ := Lib.hid (binW_range top (absW v) s.sc R.out.ht (Nat.pos_of_ne_zero R.out.hx) R.out.hx2) |>.out
  have RB := Lib.hid (And.intro r1 r2)
  clear r1 r2
  generalize hB : binW top s.sc (absW v) = B at *
  have HB := Lib.hid hB
  clear hB
  go_wp2_with fail
  go_quiet (first | (go_at_call 130; exact quiet_same (scaleChange130 d 0 ms B s.ps s.pl.length _ N.out.c7 R.out.m1 R.out.m2 (by have := RB.out; omega) (by have := RB.out; omega) (by have := R.out.p1; omega) (by have := R.out.p2; omega) (by omega) (by have := R.out.pl; omega))))
  have hsc := HSC.out
  (try rw [hsc])
  generalize hW : w3.drewN _ = w4
  have hd4 : Dr w3 w4 := ⟨_, hW⟩
  have M4 := Lib.hid (M3.out.dr hd4)
  clear hW hd4 M3 N c9 hst hsl hsc
  have hk0 : decide ((k : Int) > 0) = true := by simpa using hk
  have s1 : s.sc ≤ 20 := by have := R.out.hS; have := R.out.ht; omega
  have s2 := R.out.hS1
  have hw1 : IntKind.i32.wrap (s.sc - (k : Int)) = s.sc - (k : Int) := IntWalk.i32_in _ (by omega)
  have hlo' : decide (s.sc - (k : Int) < -10) = true := by simpa using hlo
  go_wp2_with fail
  obtain ⟨fb4, ni4, q2, N⟩ := M4.out.now
  clear q2
  refine (load79 _ _ w4 N.bk.sc).mono ?_; rintro e w5 ⟨rfl, rfl⟩
  have FIN := Lib.hid (M4.out.fin N.bk ((Kept.refl _ _)) (fun _ _ => rfl) (fun _ => rfl) (.inl rfl) (.inl rfl))
  clear N
  go_wp2_with fail
  (try simp only [Exit.inBlock, Exit.then])
  refine bodyPost_ret (results_none rfl _ _ _) rfl ?_
  exact ⟨rfl, FIN.out⟩
set_option maxHeartbeats 1000000 in
theorem rec96_tooN (d v top k : Nat) (mm : Option (Nat × Nat)) (fb : Nat) (ni ms : Int) (s : Bk) (og oh : Option Nat) (w : World) (h : DpAt w d mm fb ni ms s og oh)
    (R : RecPre top v ms s) (hneg : ltW v 0 = true) (hsc : scOf ms (binW top s.sc (absW v)) s.ns s.nl.length = (k : Int)) (hk : 0 < k) (hlo : s.sc - k < -10) :
    Calls Tryz.prog 96 #[.pointer (some ⟨d, 0, none⟩), .float .f64 v] w fun e w' => e = .returned (.tuple #[]) ∧ DpPost w w' d v mm fb ni ms s og oh := by
  have hze := order_pos_ne_zero (Nat.pos_of_ne_zero R.hx) R.hx2
  have hng : (FloatKind.f64.format.order v 0 == some .lt) = true := hneg
  have c8 := h.c8
  have HSC := Lib.hid hsc
  have hk31 : k ≤ 31 := by have := (scOf_le ms (binW top s.sc (absW v)) s.ns s.nl.length).2; omega
  clear hsc hneg
  have R := Lib.hid R
  have H := Lib.hid h
  clear h
  go_enter Tryz.func96, Tryz.ntmps96
  go_wp2_with fail
  refine (upd127 _ _ _ _ H.out.mm H.out.fz).mono ?_; rintro e w1 ⟨rfl, hm1, hb1⟩
  have c9 : w1.cell? ⟨d, 9, none⟩ = some (.bool false) := (hb1.cell _ (by decide)).trans H.out.c9
  have M1 := Lib.hid (And.intro hm1 hb1)
  clear hm1 hb1
  go_wp2_with fail
  refine (sum128 d v fb ni _ ((M1.out.2.cell _ (by decide)).trans H.out.c5) ((M1.out.2.cell _ (by decide)).trans H.out.c6) (fun i => (M1.out.2.fz i).trans (H.out.fz i)) H.out.fbl).mono ?_
  rintro e w2 ⟨rfl, fb', ni', q1, q2, q5, q6, hb2⟩
  have M := Lib.hid (DpMid.make H.out M1.out.1 M1.out.2 q1 q2 q5 q6 hb2)
  clear q1 q2 q5 q6 hb2
  go_wp2_with fail
  refine (abs12 v _ R.out.hv).mono ?_; rintro e w' ⟨rfl, rfl⟩
  go_wp2_with fail
  obtain ⟨fb2, ni2, q2, N⟩ := M.out.now
  have N := Lib.hid N
  clear q2
  refine (R.out.bin _ d s.sc R.out.hS R.out.hS1 N.out.bk.sc).mono ?_; rintro e w3 ⟨rfl, hd3⟩
  have M3 := Lib.hid (M.out.dr hd3)
  clear hd3 N
  obtain ⟨fb3, ni3, q2, N⟩ := M3.out.now
  clear q2
  obtain ⟨e0, e1, hsl⟩ := N.bk.N.slice
  have hst := N.bk.N.1
  have N := Lib.hid N
  obtain ⟨r1, r2⟩ := Lib.hid (binW_range top (absW v) s.sc R.out.ht (Nat.pos_of_ne_zero R.out.hx) R.out.hx2) |>.out
  have RB := Lib.hid (And.intro r1 r2)
  clear r1 r2
  generalize hB : binW top s.sc (absW v) = B at *
  have HB := Lib.hid hB
  clear hB
  go_wp2_with fail
  go_quiet (first | (go_at_call 130; exact quiet_same (scaleChange130 d 0 ms B s.ns s.nl.length _ N.out.c7 R.out.m1 R.out.m2 (by have := RB.out; omega) (by have := RB.out; omega) (by have := R.out.n1; omega) (by have := R.out.n2; omega) (by omega) (by have := R.out.nl; omega))))
  have hsc := HSC.out
  (try rw [hsc])
  generalize hW : w3.drewN _ = w4
  have hd4 : Dr w3 w4 := ⟨_, hW⟩
  have M4 := Lib.hid (M3.out.dr hd4)
  clear hW hd4 M3 N c9 hst hsl hsc
  have hk0 : decide ((k : Int) > 0) = true := by simpa using hk
  have s1 : s.sc ≤ 20 := by have := R.out.hS; have := R.out.ht; omega
  have s2 := R.out.hS1
  have hw1 : IntKind.i32.wrap (s.sc - (k : Int)) = s.sc - (k : Int) := IntWalk.i32_in _ (by omega)
  have hlo' : decide (s.sc - (k : Int) < -10) = true := by simpa using hlo
  go_wp2_with fail
  obtain ⟨fb4, ni4, q2, N⟩ := M4.out.now
  clear q2
  refine (load79 _ _ w4 N.bk.sc).mono ?_; rintro e w5 ⟨rfl, rfl⟩
  have FIN := Lib.hid (M4.out.fin N.bk ((Kept.refl _ _)) (fun _ _ => rfl) (fun _ => rfl) (.inl rfl) (.inl rfl))
  clear N
  go_wp2_with fail
  (try simp only [Exit.inBlock, Exit.then])
  refine bodyPost_ret (results_none rfl _ _ _) rfl ?_
  exact ⟨rfl, FIN.out⟩
end Go.Proofs.YtlpddogcnpokfaaGreat
namespace Go.Proofs.YtlpddogcnpokfaaGreat
open Go.RowKit
theorem BkStep.dr {w w1 w2 : World} {d : Nat} {og oh og1 oh1 : Option Nat} {s1 : Bk} (h : BkStep w w1 d og oh s1 og1 oh1) (hd : Dr w1 w2) : BkStep w w2 d og oh s1 og1 oh1 := by
  have K : PtBut w1 w2 d [] := PtBut.ofDr hd
  exact ⟨h.now.but K (by simp), h.kept.dr hd, fun i hi => (K.cell i (by simp)).trans (h.cells i hi), fun i => (K.fz i).trans (h.fz i), h.n1, h.n2⟩
set_option maxHeartbeats 1000000 in
theorem rec96_dnP (d v top k : Nat) (mm : Option (Nat × Nat)) (fb : Nat) (ni ms : Int) (s : Bk) (og oh : Option Nat) (w : World) (h : DpAt w d mm fb ni ms s og oh)
    (R : RecPre top v ms s) (hneg : ltW v 0 = false) (hsc : scOf ms (binW top s.sc (absW v)) s.ps s.pl.length = (k : Int)) (hk : 0 < k) (hlo : -10 ≤ s.sc - k) (hlen : (recL (s.ps / ((2 ^ k : Nat) : Int)) (dsSide s.ps s.pl k) (binW top (s.sc - k) (absW v))).length ≤ 1000) :
    Calls Tryz.prog 96 #[.pointer (some ⟨d, 0, none⟩), .float .f64 v] w fun e w' => e = .returned (.tuple #[]) ∧ DpPost w w' d v mm fb ni ms ((s.down k).put false (binW top (s.sc - k) (absW v))) og oh := by
  have hze := order_pos_ne_zero (Nat.pos_of_ne_zero R.hx) R.hx2
  have hng : (FloatKind.f64.format.order v 0 == some .lt) = false := hneg
  have c8 := h.c8
  have HSC := Lib.hid hsc
  have hk31 : k ≤ 31 := by have := (scOf_le ms (binW top s.sc (absW v)) s.ps s.pl.length).2; omega
  have HLEN := Lib.hid hlen
  clear hsc hneg hlen
  have R := Lib.hid R
  have H := Lib.hid h
  clear h
  go_enter Tryz.func96, Tryz.ntmps96
  go_wp2_with fail
  refine (upd127 _ _ _ _ H.out.mm H.out.fz).mono ?_; rintro e w1 ⟨rfl, hm1, hb1⟩
  have c9 : w1.cell? ⟨d, 9, none⟩ = some (.bool false) := (hb1.cell _ (by decide)).trans H.out.c9
  have M1 := Lib.hid (And.intro hm1 hb1)
  clear hm1 hb1
  go_wp2_with fail
  refine (sum128 d v fb ni _ ((M1.out.2.cell _ (by decide)).trans H.out.c5) ((M1.out.2.cell _ (by decide)).trans H.out.c6) (fun i => (M1.out.2.fz i).trans (H.out.fz i)) H.out.fbl).mono ?_
  rintro e w2 ⟨rfl, fb', ni', q1, q2, q5, q6, hb2⟩
  have M := Lib.hid (DpMid.make H.out M1.out.1 M1.out.2 q1 q2 q5 q6 hb2)
  clear q1 q2 q5 q6 hb2
  go_wp2_with fail
  refine (abs12 v _ R.out.hv).mono ?_; rintro e w' ⟨rfl, rfl⟩
  go_wp2_with fail
  obtain ⟨fb2, ni2, q2, N⟩ := M.out.now
  have N := Lib.hid N
  clear q2
  refine (R.out.bin _ d s.sc R.out.hS R.out.hS1 N.out.bk.sc).mono ?_; rintro e w3 ⟨rfl, hd3⟩
  have M3 := Lib.hid (M.out.dr hd3)
  clear hd3 N
  obtain ⟨fb3, ni3, q2, N⟩ := M3.out.now
  clear q2
  obtain ⟨e0, e1, hsl⟩ := N.bk.P.slice
  have hst := N.bk.P.1
  have N := Lib.hid N
  obtain ⟨r1, r2⟩ := Lib.hid (binW_range top (absW v) s.sc R.out.ht (Nat.pos_of_ne_zero R.out.hx) R.out.hx2) |>.out
  have RB := Lib.hid (And.intro r1 r2)
  clear r1 r2
  generalize hB : binW top s.sc (absW v) = B at *
  have HB := Lib.hid hB
  clear hB
  go_wp2_with fail
  go_quiet (first | (go_at_call 130; exact quiet_same (scaleChange130 d 0 ms B s.ps s.pl.length _ N.out.c7 R.out.m1 R.out.m2 (by have := RB.out; omega) (by have := RB.out; omega) (by have := R.out.p1; omega) (by have := R.out.p2; omega) (by omega) (by have := R.out.pl; omega))))
  have hsc := HSC.out
  (try rw [hsc])
  generalize hW : w3.drewN _ = w4
  have hd4 : Dr w3 w4 := ⟨_, hW⟩
  have M4 := Lib.hid (M3.out.dr hd4)
  clear hW hd4 M3 N c9 hst hsl hsc
  have hk0 : decide ((k : Int) > 0) = true := by simpa using hk
  have s1 : s.sc ≤ 20 := by have := R.out.hS; have := R.out.ht; omega
  have s2 := R.out.hS1
  have hw1 : IntKind.i32.wrap (s.sc - (k : Int)) = s.sc - (k : Int) := IntWalk.i32_in _ (by omega)
  have hlo' : decide (s.sc - (k : Int) < -10) = false := by simpa using hlo
  have hw2 : IntKind.i32.wrap (-(k : Int)) = -(k : Int) := IntWalk.i32_in _ (by omega)
  go_wp2_with fail
  obtain ⟨fb4, ni4, q2, N⟩ := M4.out.now
  clear q2
  have N := Lib.hid N
  refine (load79 _ _ w4 N.out.bk.sc).mono ?_; rintro e w5 ⟨rfl, rfl⟩
  go_wp2_with fail
  refine (addI119 _ s.sc (-(k : Int)) w4 N.out.bk.sc (N.out.fz _) (by omega) (by omega)).mono ?_; rintro e w5 ⟨rfl, hw5⟩
  have h5 : BkStep w4 w5 d og oh { s with sc := s.sc - k } og oh := by
    rw [← hw5]; exact BkStep.set N.out.bk _
  have ST := Lib.hid h5
  have l5 := Nat.lt_of_lt_of_le N.out.lt ST.out.kept.size
  have f5 := fun i => (ST.out.fz i).trans (N.out.fz i)
  have L5 := Lib.hid l5
  have F5 := Lib.hid f5
  clear h5 hw5 l5 f5
  go_wp2_with fail
  refine (downscale120 d 11 s.ps s.pl og k w5 ST.out.now.P (F5.out _) (F5.out _) R.out.p1 R.out.p2 hk (by omega) R.out.pl R.out.pm).mono ?_; rintro e w6 ⟨rfl, hp⟩
  obtain ⟨og6, h6⟩ := BkStep.recP ST.out.now L5.out hp
  have ST6 := Lib.hid (ST.out.trans h6)
  have L6 := Lib.hid (Nat.lt_of_lt_of_le N.out.lt ST6.out.kept.size)
  have F6 := Lib.hid fun i => (ST6.out.fz i).trans (N.out.fz i)
  clear h6 hp ST L5 F5
  go_wp2_with fail
  refine (downscale120 d 13 s.ns s.nl oh k w6 ST6.out.now.N (F6.out _) (F6.out _) R.out.n1 R.out.n2 hk (by omega) R.out.nl R.out.nm).mono ?_; rintro e w7 ⟨rfl, hp⟩
  obtain ⟨oh7, h7⟩ := BkStep.recN ST6.out.now L6.out hp
  have ST7 := Lib.hid (ST6.out.trans h7)
  clear h7 hp ST6 L6 F6
  go_wp2_with fail
  refine (R.out.bin w7 d (s.sc - k) (by have := R.out.hS; omega) hlo ST7.out.now.sc).mono ?_; rintro e w8 ⟨rfl, hd8⟩
  have ST8 := Lib.hid (ST7.out.dr hd8)
  have L8 := Lib.hid (Nat.lt_of_lt_of_le N.out.lt ST8.out.kept.size)
  have F8 := Lib.hid fun i => (ST8.out.fz i).trans (N.out.fz i)
  have R8 := Lib.hid (binW_range top (absW v) (s.sc - k) R.out.ht (Nat.pos_of_ne_zero R.out.hx) R.out.hx2)
  have D8 := Lib.hid (div_range s.ps (2 ^ k) _ R.out.p1 R.out.p2 (Nat.two_pow_pos _))
  clear hd8 ST7
  go_wp2_with fail
  refine (record121 d 11 _ _ _ og6 w8 ST8.out.now.P L8.out (F8.out _) (F8.out _) D8.out.1 D8.out.2 R8.out.1 R8.out.2 HLEN.out (fun x hx => Nat.lt_of_le_of_lt (dsSide_le _ _ _ _ hx) R.out.pm)).mono ?_
  rintro e w9 ⟨rfl, hp⟩
  obtain ⟨og9, h9⟩ := BkStep.recP ST8.out.now L8.out hp
  have FIN := Lib.hid (M4.out.step (ST8.out.trans h9))
  clear h9 hp
  go_wp2_with fail
  go_end0
  exact ⟨rfl, FIN.out⟩
set_option maxHeartbeats 1000000 in
theorem rec96_dnN (d v top k : Nat) (mm : Option (Nat × Nat)) (fb : Nat) (ni ms : Int) (s : Bk) (og oh : Option Nat) (w : World) (h : DpAt w d mm fb ni ms s og oh)
    (R : RecPre top v ms s) (hneg : ltW v 0 = true) (hsc : scOf ms (binW top s.sc (absW v)) s.ns s.nl.length = (k : Int)) (hk : 0 < k) (hlo : -10 ≤ s.sc - k) (hlen : (recL (s.ns / ((2 ^ k : Nat) : Int)) (dsSide s.ns s.nl k) (binW top (s.sc - k) (absW v))).length ≤ 1000) :
    Calls Tryz.prog 96 #[.pointer (some ⟨d, 0, none⟩), .float .f64 v] w fun e w' => e = .returned (.tuple #[]) ∧ DpPost w w' d v mm fb ni ms ((s.down k).put true (binW top (s.sc - k) (absW v))) og oh := by
  have hze := order_pos_ne_zero (Nat.pos_of_ne_zero R.hx) R.hx2
  have hng : (FloatKind.f64.format.order v 0 == some .lt) = true := hneg
  have c8 := h.c8
  have HSC := Lib.hid hsc
  have hk31 : k ≤ 31 := by have := (scOf_le ms (binW top s.sc (absW v)) s.ns s.nl.length).2; omega
  have HLEN := Lib.hid hlen
  clear hsc hneg hlen
  have R := Lib.hid R
  have H := Lib.hid h
  clear h
  go_enter Tryz.func96, Tryz.ntmps96
  go_wp2_with fail
  refine (upd127 _ _ _ _ H.out.mm H.out.fz).mono ?_; rintro e w1 ⟨rfl, hm1, hb1⟩
  have c9 : w1.cell? ⟨d, 9, none⟩ = some (.bool false) := (hb1.cell _ (by decide)).trans H.out.c9
  have M1 := Lib.hid (And.intro hm1 hb1)
  clear hm1 hb1
  go_wp2_with fail
  refine (sum128 d v fb ni _ ((M1.out.2.cell _ (by decide)).trans H.out.c5) ((M1.out.2.cell _ (by decide)).trans H.out.c6) (fun i => (M1.out.2.fz i).trans (H.out.fz i)) H.out.fbl).mono ?_
  rintro e w2 ⟨rfl, fb', ni', q1, q2, q5, q6, hb2⟩
  have M := Lib.hid (DpMid.make H.out M1.out.1 M1.out.2 q1 q2 q5 q6 hb2)
  clear q1 q2 q5 q6 hb2
  go_wp2_with fail
  refine (abs12 v _ R.out.hv).mono ?_; rintro e w' ⟨rfl, rfl⟩
  go_wp2_with fail
  obtain ⟨fb2, ni2, q2, N⟩ := M.out.now
  have N := Lib.hid N
  clear q2
  refine (R.out.bin _ d s.sc R.out.hS R.out.hS1 N.out.bk.sc).mono ?_; rintro e w3 ⟨rfl, hd3⟩
  have M3 := Lib.hid (M.out.dr hd3)
  clear hd3 N
  obtain ⟨fb3, ni3, q2, N⟩ := M3.out.now
  clear q2
  obtain ⟨e0, e1, hsl⟩ := N.bk.N.slice
  have hst := N.bk.N.1
  have N := Lib.hid N
  obtain ⟨r1, r2⟩ := Lib.hid (binW_range top (absW v) s.sc R.out.ht (Nat.pos_of_ne_zero R.out.hx) R.out.hx2) |>.out
  have RB := Lib.hid (And.intro r1 r2)
  clear r1 r2
  generalize hB : binW top s.sc (absW v) = B at *
  have HB := Lib.hid hB
  clear hB
  go_wp2_with fail
  go_quiet (first | (go_at_call 130; exact quiet_same (scaleChange130 d 0 ms B s.ns s.nl.length _ N.out.c7 R.out.m1 R.out.m2 (by have := RB.out; omega) (by have := RB.out; omega) (by have := R.out.n1; omega) (by have := R.out.n2; omega) (by omega) (by have := R.out.nl; omega))))
  have hsc := HSC.out
  (try rw [hsc])
  generalize hW : w3.drewN _ = w4
  have hd4 : Dr w3 w4 := ⟨_, hW⟩
  have M4 := Lib.hid (M3.out.dr hd4)
  clear hW hd4 M3 N c9 hst hsl hsc
  have hk0 : decide ((k : Int) > 0) = true := by simpa using hk
  have s1 : s.sc ≤ 20 := by have := R.out.hS; have := R.out.ht; omega
  have s2 := R.out.hS1
  have hw1 : IntKind.i32.wrap (s.sc - (k : Int)) = s.sc - (k : Int) := IntWalk.i32_in _ (by omega)
  have hlo' : decide (s.sc - (k : Int) < -10) = false := by simpa using hlo
  have hw2 : IntKind.i32.wrap (-(k : Int)) = -(k : Int) := IntWalk.i32_in _ (by omega)
  go_wp2_with fail
  obtain ⟨fb4, ni4, q2, N⟩ := M4.out.now
  clear q2
  have N := Lib.hid N
  refine (load79 _ _ w4 N.out.bk.sc).mono ?_; rintro e w5 ⟨rfl, rfl⟩
  go_wp2_with fail
  refine (addI119 _ s.sc (-(k : Int)) w4 N.out.bk.sc (N.out.fz _) (by omega) (by omega)).mono ?_; rintro e w5 ⟨rfl, hw5⟩
  have h5 : BkStep w4 w5 d og oh { s with sc := s.sc - k } og oh := by
    rw [← hw5]; exact BkStep.set N.out.bk _
  have ST := Lib.hid h5
  have l5 := Nat.lt_of_lt_of_le N.out.lt ST.out.kept.size
  have f5 := fun i => (ST.out.fz i).trans (N.out.fz i)
  have L5 := Lib.hid l5
  have F5 := Lib.hid f5
  clear h5 hw5 l5 f5
  go_wp2_with fail
  refine (downscale120 d 11 s.ps s.pl og k w5 ST.out.now.P (F5.out _) (F5.out _) R.out.p1 R.out.p2 hk (by omega) R.out.pl R.out.pm).mono ?_; rintro e w6 ⟨rfl, hp⟩
  obtain ⟨og6, h6⟩ := BkStep.recP ST.out.now L5.out hp
  have ST6 := Lib.hid (ST.out.trans h6)
  have L6 := Lib.hid (Nat.lt_of_lt_of_le N.out.lt ST6.out.kept.size)
  have F6 := Lib.hid fun i => (ST6.out.fz i).trans (N.out.fz i)
  clear h6 hp ST L5 F5
  go_wp2_with fail
  refine (downscale120 d 13 s.ns s.nl oh k w6 ST6.out.now.N (F6.out _) (F6.out _) R.out.n1 R.out.n2 hk (by omega) R.out.nl R.out.nm).mono ?_; rintro e w7 ⟨rfl, hp⟩
  obtain ⟨oh7, h7⟩ := BkStep.recN ST6.out.now L6.out hp
  have ST7 := Lib.hid (ST6.out.trans h7)
  clear h7 hp ST6 L6 F6
  go_wp2_with fail
  refine (R.out.bin w7 d (s.sc - k) (by have := R.out.hS; omega) hlo ST7.out.now.sc).mono ?_; rintro e w8 ⟨rfl, hd8⟩
  have ST8 := Lib.hid (ST7.out.dr hd8)
  have L8 := Lib.hid (Nat.lt_of_lt_of_le N.out.lt ST8.out.kept.size)
  have F8 := Lib.hid fun i => (ST8.out.fz i).trans (N.out.fz i)
  have R8 := Lib.hid (binW_range top (absW v) (s.sc - k) R.out.ht (Nat.pos_of_ne_zero R.out.hx) R.out.hx2)
  have D8 := Lib.hid (div_range s.ns (2 ^ k) _ R.out.n1 R.out.n2 (Nat.two_pow_pos _))
  clear hd8 ST7
  go_wp2_with fail
  refine (record121 d 13 _ _ _ oh7 w8 ST8.out.now.N L8.out (F8.out _) (F8.out _) D8.out.1 D8.out.2 R8.out.1 R8.out.2 HLEN.out (fun x hx => Nat.lt_of_le_of_lt (dsSide_le _ _ _ _ hx) R.out.nm)).mono ?_
  rintro e w9 ⟨rfl, hp⟩
  obtain ⟨oh9, h9⟩ := BkStep.recN ST8.out.now L8.out hp
  have FIN := Lib.hid (M4.out.step (ST8.out.trans h9))
  clear h9 hp
  go_wp2_with fail
  go_end0
  exact ⟨rfl, FIN.out⟩
end Go.Proofs.YtlpddogcnpokfaaGreat
namespace Go.Proofs.YtlpddogcnpokfaaGreat
open Go.RowKit

/-- A MEASUREMENT. -/
theorem record96 (d v top : Nat) (mm : Option (Nat × Nat)) (fb : Nat) (ni ms : Int) (s : Bk) (og oh : Option Nat) (w : World) (h : DpAt w d mm fb ni ms s og oh)
    (hv : v < 18446744073709551616) (hzc : s.zc < 4611686018427387904) (R : absW v ≠ 0 → RecPre top v ms s) (hp : (recBk top ms v s).pl.length ≤ 1000) (hn : (recBk top ms v s).nl.length ≤ 1000) :
    Calls Tryz.prog 96 #[.pointer (some ⟨d, 0, none⟩), .float .f64 v] w fun e w' => e = .returned (.tuple #[]) ∧ DpPost w w' d v mm fb ni ms (recBk top ms v s) og oh := by
  unfold recBk at hp hn ⊢
  by_cases hz : absW v = 0
  · simp only [if_pos hz]
    exact rec96_zero d v mm fb ni ms s og oh w h hv hz hzc
  have R := R hz
  simp only [if_neg hz] at hp hn ⊢
  by_cases hneg : ltW v 0 = true
  · simp only [hneg, Bk.st, Bk.row, if_true] at hp hn ⊢
    obtain ⟨k, hk⟩ : ∃ k : Nat, scOf ms (binW top s.sc (absW v)) s.ns s.nl.length = (k : Int) := ⟨(scOf ms (binW top s.sc (absW v)) s.ns s.nl.length).toNat, by have := (scOf_le ms (binW top s.sc (absW v)) s.ns s.nl.length).1; omega⟩
    simp only [hk, Int.toNat_natCast] at hp hn ⊢
    by_cases h0 : k = 0
    · subst h0
      simp only [if_true] at hp hn ⊢
      exact rec96_putN d v top mm fb ni ms s og oh w h R hneg hk hn
    · simp only [if_neg h0] at hp hn ⊢
      by_cases hlo : s.sc - (k : Int) < -10
      · simp only [if_pos hlo]
        exact rec96_tooN d v top k mm fb ni ms s og oh w h R hneg hk (Nat.pos_of_ne_zero h0) hlo
      · simp only [if_neg hlo] at hp hn ⊢
        exact rec96_dnN d v top k mm fb ni ms s og oh w h R hneg hk (Nat.pos_of_ne_zero h0) (by omega) hn
  · have hneg : ltW v 0 = false := by simpa using hneg
    simp only [hneg, Bk.st, Bk.row, Bool.false_eq_true, if_false] at hp hn ⊢
    obtain ⟨k, hk⟩ : ∃ k : Nat, scOf ms (binW top s.sc (absW v)) s.ps s.pl.length = (k : Int) := ⟨(scOf ms (binW top s.sc (absW v)) s.ps s.pl.length).toNat, by have := (scOf_le ms (binW top s.sc (absW v)) s.ps s.pl.length).1; omega⟩
    simp only [hk, Int.toNat_natCast] at hp hn ⊢
    by_cases h0 : k = 0
    · subst h0
      simp only [if_true] at hp hn ⊢
      exact rec96_putP d v top mm fb ni ms s og oh w h R hneg hk hp
    · simp only [if_neg h0] at hp hn ⊢
      by_cases hlo : s.sc - (k : Int) < -10
      · simp only [if_pos hlo]
        exact rec96_tooP d v top k mm fb ni ms s og oh w h R hneg hk (Nat.pos_of_ne_zero h0) hlo
      · simp only [if_neg hlo] at hp hn ⊢
        exact rec96_dnP d v top k mm fb ni ms s og oh w h R hneg hk (Nat.pos_of_ne_zero h0) (by omega) hp
end Go.Proofs.YtlpddogcnpokfaaGreat
