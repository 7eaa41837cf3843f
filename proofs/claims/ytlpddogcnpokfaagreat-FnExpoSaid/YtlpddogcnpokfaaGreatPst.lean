/- state of a point -/
import Derived.Test.YtlpddogcnpokfaaGreatCtr
import Derived.Test.YtlpddogcnpokfaaGreatSc
import Derived.Test.YtlpddogcnpokfaaGreatDsc
namespace Go.Proofs.YtlpddogcnpokfaaGreat
open Go.RowKit

/-- cells of a block beside some of them, and all other blocks, are as they were -/
structure PtBut (w w' : World) (b : Nat) (I : List Nat) : Prop where
  cell : ∀ i, i ∉ I → w'.cell? ⟨b, i, none⟩ = w.cell? ⟨b, i, none⟩
  fz : ∀ i, w'.frozen? ⟨b, i, none⟩ = w.frozen? ⟨b, i, none⟩
  kept : Kept [b] w w'

theorem PtBut.refl (w : World) (b : Nat) (I : List Nat) : PtBut w w b I := ⟨fun _ _ => rfl, fun _ => rfl, Kept.refl _ _⟩
theorem PtBut.set {w w' : World} {b : Nat} {I : List Nat} (h : PtBut w w' b I) (i : Nat) (hi : i ∈ I) (v : Value) : PtBut w (w'.setCell ⟨b, i, none⟩ v) b I := by
  refine ⟨fun j hj => ?_, fun j => ?_, h.kept.setCell (.inl (by simp)) v⟩
  · rw [← h.cell j hj]
    have : j ≠ i := by rintro rfl; exact hj hi
    go_simp
  · rw [← h.fz j]; go_simp
theorem PtBut.dr {w w1 w2 : World} {b : Nat} {I : List Nat} (h : PtBut w w1 b I) (hd : Dr w1 w2) : PtBut w w2 b I := by
  have hk := h.kept.dr hd
  obtain ⟨k, rfl⟩ := hd
  exact ⟨h.cell, h.fz, hk⟩
theorem PtBut.ofDr {w w' : World} {b : Nat} {I : List Nat} (hd : Dr w w') : PtBut w w' b I := (PtBut.refl w b I).dr hd

theorem SideAt.but {w w' : World} {b o : Nat} {st : Int} {l : List Nat} {og : Option Nat} {I : List Nat} (h : SideAt w b o st l og) (k : PtBut w w' b I) (h1 : o ∉ I) (h2 : o + 1 ∉ I) : SideAt w' b o st l og := by
  obtain ⟨hs, hr⟩ := h
  refine ⟨(k.cell o h1).trans hs, ?_⟩
  rcases hr with ⟨hv, rfl, rfl⟩ | ⟨g, F, hv, rfl, hne, hg, hgb, hlF, hF, ht⟩
  · exact .inl ⟨(k.cell _ h2).trans hv, rfl, rfl⟩
  · refine .inr ⟨g, F, (k.cell _ h2).trans hv, rfl, hne, ?_, hgb, hlF, hF, ht⟩
    rw [k.kept.block g (by
      rcases Nat.lt_or_ge g w.heap.size with h | h
      · exact h
      · rw [Array.getElem?_eq_none h] at hg; cases hg) (by simpa using hgb)]
    exact hg
theorem SideAt.lt {w : World} {b o : Nat} {st : Int} {l : List Nat} {og : Option Nat} (h : SideAt w b o st l og) {g : Nat} (hg : og = some g) : g < w.heap.size ∧ g ≠ b := by
  obtain ⟨_, hr⟩ := h
  rcases hr with ⟨_, _, rfl⟩ | ⟨g', F, _, rfl, _, hg', hgb, _⟩
  · cases hg
  · cases hg
    refine ⟨?_, hgb⟩
    rcases Nat.lt_or_ge g w.heap.size with h | h
    · exact h
    · rw [Array.getElem?_eq_none h] at hg'; cases hg'

/-- the two rows lie apart -/
def Apart (og oh : Option Nat) : Prop := ∀ g, og = some g → oh ≠ some g

/-- the other side, behind a change of one -/
theorem SideAt.other {w w' : World} {b o o2 : Nat} {st st2 : Int} {l l2 : List Nat} {og oh : Option Nat} (k : RecPost w w' b o st l og) (h : SideAt w b o2 st2 l2 oh)
    (h1 : o2 ≠ o) (h2 : o2 ≠ o + 1) (h3 : o2 + 1 ≠ o) (ha : Apart og oh) (_hb : b < w.heap.size) :
    ∃ og', SideAt w' b o st l og' ∧ SideAt w' b o2 st2 l2 oh ∧ Apart og' oh ∧ Kept (touched b og) w w' ∧ CellsBut w w' b o ∧ (og' = og ∨ ∃ g, og' = some g ∧ w.heap.size ≤ g) := by
  obtain ⟨og', a1, a2, a3, a4⟩ := k
  refine ⟨og', a1, ?_, ?_, a2, a3, a4⟩
  · have hl := fun g (e : oh = some g) => h.lt e
    obtain ⟨hs, hr⟩ := h
    refine ⟨(a3.1 o2 h1 h2).trans hs, ?_⟩
    rcases hr with ⟨hv, rfl, rfl⟩ | ⟨g, F, hv, rfl, hne, hg, hgb, hlF, hF, ht⟩
    · exact .inl ⟨(a3.1 _ h3 (by omega)).trans hv, rfl, rfl⟩
    · refine .inr ⟨g, F, (a3.1 _ h3 (by omega)).trans hv, rfl, hne, ?_, hgb, hlF, hF, ht⟩
      rw [a2.block g (hl g rfl).1 ?_]
      · exact hg
      · simp only [touched, List.mem_cons, not_or]
        refine ⟨hgb, fun hm => ?_⟩
        cases og with
        | none => simp at hm
        | some g' =>
          simp at hm
          exact ha g' rfl (by rw [hm])
  · intro g e e2
    rcases a4 with rfl | ⟨g', e3, h4⟩
    · exact ha g e e2
    · rw [e] at e3
      cases e3
      have := (h.lt e2).1
      omega

theorem div_range (a : Int) (k : Nat) (B : Int) (h1 : -B ≤ a) (h2 : a ≤ B) (hk : 0 < k) : -B ≤ a / (k : Int) ∧ a / (k : Int) ≤ B := by
  have hB : 0 ≤ B := by omega
  have hk' : (0 : Int) < (k : Int) := by omega
  refine ⟨?_, ?_⟩
  · rw [Int.le_ediv_iff_mul_le hk']
    have : B * 1 ≤ B * (k : Int) := Int.mul_le_mul_of_nonneg_left (by omega) hB
    have e : -B * (k : Int) = -(B * (k : Int)) := Int.neg_mul _ _
    omega
  · have h := Int.ediv_le_ediv hk' h2
    have h3 := Int.ediv_le_self (k : Int) hB
    omega

theorem idx_range (top x : Nat) (ht : top ≤ 20) (h0 : 0 < x) (hx : x < 2047 * 2 ^ 52) : -1130000000 ≤ Lg.idx top x ∧ Lg.idx top x ≤ 1130000000 := by
  obtain ⟨r1, r2⟩ := Lg.ex_range x h0 hx
  obtain ⟨_, _, d3⟩ := Lg.dig_range top x h0
  have hp : (2 ^ top : Nat) ≤ 2 ^ 20 := Nat.pow_le_pow_right (by decide) ht
  have hp1 : 0 < (2 ^ top : Nat) := Nat.two_pow_pos _
  unfold Lg.idx
  generalize (Lg.dig top x).1 = d at *
  generalize Lg.ex x = e at *
  generalize (2 ^ top : Nat) = p at *
  have a1 : -1074 * (p : Int) ≤ e * (p : Int) := Int.mul_le_mul_of_nonneg_right r1 (by omega)
  have a2 : e * (p : Int) ≤ 1023 * (p : Int) := Int.mul_le_mul_of_nonneg_right r2 (by omega)
  split <;> omega
theorem binW_range (top x : Nat) (S : Int) (ht : top ≤ 20) (h0 : 0 < x) (hx : x < 2047 * 2 ^ 52) : -1130000000 ≤ binW top S x ∧ binW top S x ≤ 1130000000 := by
  obtain ⟨h1, h2⟩ := idx_range top x ht h0 hx
  exact div_range _ _ _ h1 h2 (Nat.two_pow_pos _)

theorem mem_le_sum (l : List Nat) (x : Nat) (h : x ∈ l) : x ≤ l.sum := by
  induction l with
  | nil => cases h
  | cons a l ih =>
    rw [List.sum_cons]
    rcases List.mem_cons.1 h with rfl | h
    · omega
    · have := ih h; omega
theorem dsSide_le (st : Int) (l : List Nat) (d x : Nat) (h : x ∈ dsSide st l d) : x ≤ l.sum := by
  unfold dsSide at h
  split at h
  · exact mem_le_sum l x h
  · unfold dsL at h
    obtain ⟨j, _, rfl⟩ := List.mem_map.1 h
    have := grp_le l (2 ^ d) (st % ((2 ^ d : Nat) : Int)).toNat l.length j (Nat.le_refl _)
    rwa [List.take_length] at this

/-- the buckets of a point -/
structure Bk where
  sc : Int
  ps : Int
  pl : List Nat
  ns : Int
  nl : List Nat
  zc : Nat

def Bk.st (s : Bk) (neg : Bool) : Int := if neg then s.ns else s.ps
def Bk.row (s : Bk) (neg : Bool) : List Nat := if neg then s.nl else s.pl
/-- one more in a bucket -/
def Bk.put (s : Bk) (neg : Bool) (bin : Int) : Bk :=
  if neg then { s with ns := recSt s.ns s.nl bin, nl := recL s.ns s.nl bin } else { s with ps := recSt s.ps s.pl bin, pl := recL s.ps s.pl bin }
/-- at a lesser scale -/
def Bk.down (s : Bk) (d : Nat) : Bk :=
  { s with sc := s.sc - d, ps := s.ps / ((2 ^ d : Nat) : Int), pl := dsSide s.ps s.pl d, ns := s.ns / ((2 ^ d : Nat) : Int), nl := dsSide s.ns s.nl d }
/-- what a measurement makes of the buckets -/
def recBk (top : Nat) (ms : Int) (v : Nat) (s : Bk) : Bk :=
  if absW v = 0 then { s with zc := s.zc + 1 }
  else if (scOf ms (binW top s.sc (absW v)) (s.st (ltW v 0)) (s.row (ltW v 0)).length).toNat = 0 then s.put (ltW v 0) (binW top s.sc (absW v))
  else if s.sc - (scOf ms (binW top s.sc (absW v)) (s.st (ltW v 0)) (s.row (ltW v 0)).length).toNat < -10 then s
  else (s.down (scOf ms (binW top s.sc (absW v)) (s.st (ltW v 0)) (s.row (ltW v 0)).length).toNat).put (ltW v 0)
    (binW top (s.sc - (scOf ms (binW top s.sc (absW v)) (s.st (ltW v 0)) (s.row (ltW v 0)).length).toNat) (absW v))

/-- the least and the greatest one, in memory -/
def MmAt (w : World) (b : Nat) (m : Option (Nat × Nat)) : Prop :=
  match m with
  | none => (∃ cs, w.heap[b]? = some (.cells cs 209 (0, 0))) ∧ (∃ v, w.cell? ⟨b, 2, none⟩ = some v) ∧ (∃ v, w.cell? ⟨b, 3, none⟩ = some v) ∧ w.cell? ⟨b, 4, none⟩ = some (.bool false)
  | some (mn, mx) => w.cell? ⟨b, 2, none⟩ = some (U mn) ∧ w.cell? ⟨b, 3, none⟩ = some (U mx) ∧ w.cell? ⟨b, 4, none⟩ = some (.bool true)
def mmOpt (v : Nat) : Option (Nat × Nat) → Nat × Nat
  | none => (v, v)
  | some (mn, mx) => mmStep v mn mx

/-- the buckets of a point, in memory -/
structure BkAt (w : World) (d : Nat) (s : Bk) (og oh : Option Nat) : Prop where
  sc : w.cell? ⟨d, 10, none⟩ = some (.int .i32 s.sc)
  P : SideAt w d 11 s.ps s.pl og
  N : SideAt w d 13 s.ns s.nl oh
  z : w.cell? ⟨d, 15, none⟩ = some (U s.zc)
  ap : Apart og oh

theorem BkAt.but {w w' : World} {d : Nat} {s : Bk} {og oh : Option Nat} {I : List Nat} (h : BkAt w d s og oh) (k : PtBut w w' d I) (hI : ∀ i, i ∈ I → i < 10) : BkAt w' d s og oh := by
  have n : ∀ i, 10 ≤ i → i ∉ I := fun i hi hm => by have := hI i hm; omega
  exact ⟨(k.cell _ (n _ (by omega))).trans h.sc, h.P.but k (n _ (by omega)) (n _ (by omega)), h.N.but k (n _ (by omega)) (n _ (by omega)), (k.cell _ (n _ (by omega))).trans h.z, h.ap⟩

theorem upd127 (b v : Nat) (m : Option (Nat × Nat)) (w : World) (h : MmAt w b m) (f : ∀ i, w.frozen? ⟨b, i, none⟩ = false) :
    Calls Tryz.prog 127 #[.pointer (some ⟨b, 2, none⟩), .float .f64 v] w fun e w' => e = .returned (.tuple #[]) ∧ MmAt w' b (some (mmOpt v m)) ∧ PtBut w w' b [2, 3, 4] := by
  cases m with
  | none =>
    obtain ⟨⟨cs, hb⟩, ⟨v0, h0⟩, ⟨v1, h1⟩, h2⟩ := h
    refine (update127_first b v cs v0 v1 w hb h0 h1 h2 (f _) (f _) (f _)).mono ?_
    rintro e w' ⟨he, rfl⟩
    refine ⟨he, ⟨?_, ?_, ?_⟩, (((PtBut.refl _ _ _).set 2 (by simp) _).set 3 (by simp) _).set 4 (by simp) _⟩
    · go_simp
    · go_simp
    · go_simp
  | some p =>
    obtain ⟨mn, mx⟩ := p
    obtain ⟨h0, h1, h2⟩ := h
    refine (update127_more b v mn mx w h0 h1 h2 (f _) (f _)).mono ?_
    rintro e w' ⟨he, rfl⟩
    refine ⟨he, ?_⟩
    simp only [mmOpt, mmStep]
    by_cases c1 : ltW v mn = true
    · rw [if_pos c1, if_pos c1]
      refine ⟨⟨?_, ?_, ?_⟩, (PtBut.refl _ _ _).set 2 (by simp) _⟩
      · go_simp
      · go_simp
      · go_simp
    · rw [if_neg c1, if_neg c1]
      by_cases c2 : ltW mx v = true
      · rw [if_pos c2, if_pos c2]
        refine ⟨⟨?_, ?_, ?_⟩, (PtBut.refl _ _ _).set 3 (by simp) _⟩
        · go_simp
        · go_simp
        · go_simp
      · rw [if_neg c2, if_neg c2]
        exact ⟨⟨h0, h1, h2⟩, PtBut.refl _ _ _⟩

theorem sum128 (b v fb : Nat) (ni : Int) (w : World) (h0 : w.cell? ⟨b, 5, none⟩ = some (U fb)) (h1 : w.cell? ⟨b, 6, none⟩ = some (.int .i64 ni))
    (f : ∀ i, w.frozen? ⟨b, i, none⟩ = false) (hfb : fb < 18446744073709551616) :
    Calls Tryz.prog 128 #[.pointer (some ⟨b, 5, none⟩), .float .f64 v] w fun e w' => e = .returned (.tuple #[]) ∧
      ∃ fb' ni', fb' < 18446744073709551616 ∧ SumStep v fb ni fb' ni' ∧ w'.cell? ⟨b, 5, none⟩ = some (U fb') ∧ w'.cell? ⟨b, 6, none⟩ = some (.int .i64 ni') ∧ PtBut w w' b [5, 6] := by
  refine (add128 b 5 v fb ni w h0 h1 (f _) (f _) hfb).mono ?_
  rintro e w' ⟨he, fb', ni', q1, q2, q3⟩
  refine ⟨he, fb', ni', q1, q2, ?_, ?_, (((PtBut.refl _ _ _).set 5 (by simp) _).set 6 (by simp) _).dr q3⟩
  · obtain ⟨k, rfl⟩ := q3; go_simp
  · obtain ⟨k, rfl⟩ := q3; go_simp

theorem addI119 (a : Addr) (x n : Int) (w : World) (hc : w.cell? a = some (.int .i32 x)) (hf : w.frozen? a = false) (h1 : -2147483648 ≤ x + n) (h2 : x + n ≤ 2147483647) :
    Calls Tryz.prog 119 #[.pointer (some a), .int .i32 n] w fun e w' => e = .returned (.int .i32 (x + n)) ∧ w.setCell a (.int .i32 (x + n)) = w' := by
  have hw : IntKind.i32.wrap (x + n) = x + n := IntWalk.i32_in _ (by omega)
  go_enter Tryz.func119, Tryz.ntmps119
  go_wp2
  go_ret
  exact ⟨rfl, rfl⟩
theorem load79 (a : Addr) (n : Int) (w : World) (hc : w.cell? a = some (.int .i32 n)) :
    Calls Tryz.prog 79 #[.pointer (some a)] w fun e w' => e = .returned (.int .i32 n) ∧ w = w' := by
  go_enter Tryz.func79, Tryz.ntmps79
  go_wp2
  go_ret
  exact ⟨rfl, rfl⟩
end Go.Proofs.YtlpddogcnpokfaaGreat
