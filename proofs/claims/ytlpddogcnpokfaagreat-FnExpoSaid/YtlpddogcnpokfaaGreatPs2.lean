/- a point behind a zero -/
import Derived.Test.YtlpddogcnpokfaaGreatPst
namespace Go.Proofs.YtlpddogcnpokfaaGreat
open Go.RowKit

/-- a point of an exponential histogram, in memory -/
structure DpAt (w : World) (d : Nat) (mm : Option (Nat × Nat)) (fb : Nat) (ni ms : Int) (s : Bk) (og oh : Option Nat) : Prop where
  lt : d < w.heap.size
  fz : ∀ i, w.frozen? ⟨d, i, none⟩ = false
  mm : MmAt w d mm
  c5 : w.cell? ⟨d, 5, none⟩ = some (U fb)
  c6 : w.cell? ⟨d, 6, none⟩ = some (.int .i64 ni)
  c7 : w.cell? ⟨d, 7, none⟩ = some (.int .i64 ms)
  c8 : w.cell? ⟨d, 8, none⟩ = some (.bool false)
  c9 : w.cell? ⟨d, 9, none⟩ = some (.bool false)
  fbl : fb < 18446744073709551616
  bk : BkAt w d s og oh

def Newer (w : World) (og og' : Option Nat) : Prop := og' = og ∨ ∃ g, og' = some g ∧ w.heap.size ≤ g
/-- a point behind a measurement -/
def DpPost (w w' : World) (d v : Nat) (mm : Option (Nat × Nat)) (fb : Nat) (ni ms : Int) (s : Bk) (og oh : Option Nat) : Prop :=
  ∃ fb' ni' og' oh', SumStep v fb ni fb' ni' ∧ DpAt w' d (some (mmOpt v mm)) fb' ni' ms s og' oh' ∧ Kept (d :: (og.toList ++ oh.toList)) w w' ∧ Newer w og og' ∧ Newer w oh oh' ∧
    ∀ i, i < 2 ∨ 16 ≤ i → w'.cell? ⟨d, i, none⟩ = w.cell? ⟨d, i, none⟩

/-- what the first part of 'record' leaves -/
structure DpMid (w w2 : World) (d v : Nat) (mm : Option (Nat × Nat)) (fb : Nat) (ni ms : Int) (s : Bk) (og oh : Option Nat) : Prop where
  was : DpAt w d mm fb ni ms s og oh
  now : ∃ fb' ni', SumStep v fb ni fb' ni' ∧ DpAt w2 d (some (mmOpt v mm)) fb' ni' ms s og oh
  but : PtBut w w2 d [2, 3, 4, 5, 6]

theorem PtBut.mono {w w' : World} {b : Nat} {I J : List Nat} (h : PtBut w w' b I) (hs : ∀ i, i ∈ I → i ∈ J) : PtBut w w' b J := ⟨fun i hi => h.cell i fun hm => hi (hs i hm), h.fz, h.kept⟩
theorem PtBut.trans {w w1 w2 : World} {b : Nat} {I : List Nat} (h : PtBut w w1 b I) (k : PtBut w1 w2 b I) : PtBut w w2 b I :=
  ⟨fun i hi => (k.cell i hi).trans (h.cell i hi), fun i => (k.fz i).trans (h.fz i), h.kept.trans k.kept⟩

theorem MmAt.but {w w' : World} {b : Nat} {m : Nat × Nat} {I : List Nat} (h : MmAt w b (some m)) (k : PtBut w w' b I) (hI : ∀ i, i ∈ I → 5 ≤ i) : MmAt w' b (some m) := by
  have n : ∀ i, i < 5 → i ∉ I := fun i hi hm => by have := hI i hm; omega
  obtain ⟨a, b1, c⟩ := h
  exact ⟨(k.cell _ (n _ (by omega))).trans a, (k.cell _ (n _ (by omega))).trans b1, (k.cell _ (n _ (by omega))).trans c⟩

theorem DpMid.make {w w1 w2 : World} {d v : Nat} {mm : Option (Nat × Nat)} {fb : Nat} {ni ms : Int} {s : Bk} {og oh : Option Nat} (h : DpAt w d mm fb ni ms s og oh)
    (m1 : MmAt w1 d (some (mmOpt v mm))) (b1 : PtBut w w1 d [2, 3, 4]) {fb' : Nat} {ni' : Int} (q1 : fb' < 18446744073709551616) (q2 : SumStep v fb ni fb' ni')
    (q5 : w2.cell? ⟨d, 5, none⟩ = some (U fb')) (q6 : w2.cell? ⟨d, 6, none⟩ = some (.int .i64 ni')) (b2 : PtBut w1 w2 d [5, 6]) : DpMid w w2 d v mm fb ni ms s og oh := by
  have hb : PtBut w w2 d [2, 3, 4, 5, 6] := (b1.mono (by simp)).trans (b2.mono (by simp))
  refine ⟨h, ⟨fb', ni', q2, ?_⟩, hb⟩
  refine ⟨Nat.lt_of_lt_of_le h.lt hb.kept.size, fun i => (hb.fz i).trans (h.fz i), m1.but b2 (by simp), q5, q6, (hb.cell _ (by decide)).trans h.c7, (hb.cell _ (by decide)).trans h.c8, (hb.cell _ (by decide)).trans h.c9, q1, h.bk.but hb (by simp)⟩

/-- the end of 'record': the buckets alone have changed -/
theorem DpMid.fin {w w2 w3 : World} {d v : Nat} {mm : Option (Nat × Nat)} {fb : Nat} {ni ms : Int} {s s' : Bk} {og oh og' oh' : Option Nat} (h : DpMid w w2 d v mm fb ni ms s og oh)
    (hb : BkAt w3 d s' og' oh') (hk : Kept (d :: (og.toList ++ oh.toList)) w2 w3) (hc : ∀ i, i < 10 ∨ 16 ≤ i → w3.cell? ⟨d, i, none⟩ = w2.cell? ⟨d, i, none⟩) (hf : ∀ i, w3.frozen? ⟨d, i, none⟩ = w2.frozen? ⟨d, i, none⟩)
    (n1 : Newer w2 og og') (n2 : Newer w2 oh oh') : DpPost w w3 d v mm fb ni ms s' og oh := by
  obtain ⟨wa, ⟨fb', ni', q2, n⟩, bt⟩ := h
  have hs := bt.kept.size
  refine ⟨fb', ni', og', oh', q2, ?_, ?_, ?_, ?_, ?_⟩
  · refine ⟨Nat.lt_of_lt_of_le n.lt hk.size, fun i => (hf i).trans (n.fz i), ?_, (hc _ (by omega)).trans n.c5, (hc _ (by omega)).trans n.c6, (hc _ (by omega)).trans n.c7, (hc _ (by omega)).trans n.c8, (hc _ (by omega)).trans n.c9, n.fbl, hb⟩
    obtain ⟨a, b1, c⟩ := n.mm
    exact ⟨(hc _ (by omega)).trans a, (hc _ (by omega)).trans b1, (hc _ (by omega)).trans c⟩
  · exact (bt.kept.mono (by simp)).trans hk
  · rcases n1 with h | ⟨g, h1, h2⟩
    · exact .inl h
    · exact .inr ⟨g, h1, by omega⟩
  · rcases n2 with h | ⟨g, h1, h2⟩
    · exact .inl h
    · exact .inr ⟨g, h1, by omega⟩
  · intro i hi
    rw [hc i (by omega)]
    exact bt.cell i (by simp; omega)

theorem zero_word (v : Nat) (h : absW v = 0) : (FloatKind.f64.format.order (absW v) 0 == some .eq) = true := by rw [h]; decide +kernel

set_option maxHeartbeats 400000 in
theorem rec96_zero (d v : Nat) (mm : Option (Nat × Nat)) (fb : Nat) (ni ms : Int) (s : Bk) (og oh : Option Nat) (w : World) (h : DpAt w d mm fb ni ms s og oh)
    (hv : v < 18446744073709551616) (hz : absW v = 0) (hzc : s.zc < 4611686018427387904) :
    Calls Tryz.prog 96 #[.pointer (some ⟨d, 0, none⟩), .float .f64 v] w fun e w' => e = .returned (.tuple #[]) ∧ DpPost w w' d v mm fb ni ms { s with zc := s.zc + 1 } og oh := by
  have hze := zero_word v hz
  have c8 := h.c8
  have HZ := Lib.hid hz
  clear hz
  have H := Lib.hid h
  clear h
  go_enter Tryz.func96, Tryz.ntmps96
  go_wp2_with fail
  refine (upd127 _ _ _ _ H.out.mm H.out.fz).mono ?_; rintro e w1 ⟨rfl, hm1, hb1⟩
  have c9 : w1.cell? ⟨d, 9, none⟩ = some (.bool false) := (hb1.cell _ (by decide)).trans H.out.c9
  have M1 := Lib.hid (And.intro hm1 hb1)
  clear hm1 hb1
  go_wp2_with fail
  refine (sum128 d v fb ni _ ((M1.out.2.cell _ (by decide)).trans H.out.c5) ((M1.out.2.cell _ (by decide)).trans H.out.c6) (fun i => (M1.out.2.fz i).trans (H.out.fz i)) H.out.fbl).mono ?_
  rintro e w2 ⟨rfl, fb', ni', q1, q2, q5, q6, hb2⟩
  have M := Lib.hid (DpMid.make H.out M1.out.1 M1.out.2 q1 q2 q5 q6 hb2)
  clear q1 q2 q5 q6 hb2
  go_wp2_with fail
  refine (abs12 v _ hv).mono ?_; rintro e w' ⟨rfl, rfl⟩
  go_wp2_with fail
  obtain ⟨fb2, ni2, -, N⟩ := M.out.now
  refine (add116 _ (s.zc : Int) 1 _ N.bk.z (N.fz _)).mono ?_; rintro e w3 ⟨rfl, rfl⟩
  go_wp2_with fail
  (try simp only [Exit.inBlock, Exit.then])
  refine bodyPost_ret (results_none rfl _ _ _) rfl ?_
  refine ⟨rfl, ?_⟩
  have he : IntKind.u64.wrap ((s.zc : Int) + 1) = ((s.zc + 1 : Nat) : Int) := by rw [IntKind.wrap_u64]; omega
  rw [he]
  have K : PtBut w2 (w2.setCell ⟨d, 15, none⟩ (U (s.zc + 1))) d [15] := (PtBut.refl _ _ _).set 15 (by simp) _
  refine M.out.fin (og' := og) (oh' := oh) ?_ (K.kept.mono (by simp)) (fun i hi => K.cell i (by simp; omega)) K.fz (.inl rfl) (.inl rfl)
  refine ⟨(K.cell _ (by decide)).trans N.bk.sc, N.bk.P.but K (by decide) (by decide), N.bk.N.but K (by decide) (by decide), ?_, N.bk.ap⟩
  have z := N.bk.z
  show (w2.setCell ⟨d, 15, none⟩ (U (s.zc + 1))).cell? ⟨d, 15, none⟩ = some (U (s.zc + 1))
  generalize U (s.zc + 1) = x
  go_simp
end Go.Proofs.YtlpddogcnpokfaaGreat
