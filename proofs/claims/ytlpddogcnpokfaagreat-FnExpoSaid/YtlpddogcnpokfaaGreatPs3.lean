/- a point behind a bucket -/
import Derived.Test.YtlpddogcnpokfaaGreatPs2
import Derived.StillTailTactics
namespace Go.Proofs.YtlpddogcnpokfaaGreat
open Go.RowKit

theorem SideAt.slice {w : World} {b o : Nat} {st : Int} {l : List Nat} {og : Option Nat} (h : SideAt w b o st l og) : ∃ ad c, w.cell? ⟨b, o + 1, none⟩ = some (.slice ad l.length c) := by
  obtain ⟨_, hr⟩ := h
  rcases hr with ⟨hv, rfl, rfl⟩ | ⟨g, F, hv, _⟩
  · exact ⟨none, 0, hv⟩
  · exact ⟨_, _, hv⟩
theorem DpMid.dr {w w2 w3 : World} {d v : Nat} {mm : Option (Nat × Nat)} {fb : Nat} {ni ms : Int} {s : Bk} {og oh : Option Nat} (h : DpMid w w2 d v mm fb ni ms s og oh) (hd : Dr w2 w3) :
    DpMid w w3 d v mm fb ni ms s og oh := by
  obtain ⟨wa, ⟨fb', ni', q2, n⟩, bt⟩ := h
  have k : PtBut w2 w3 d [] := PtBut.ofDr hd
  have c : ∀ i, i ∉ ([] : List Nat) := by simp
  exact ⟨wa, ⟨fb', ni', q2, Nat.lt_of_lt_of_le n.lt k.kept.size, fun i => (k.fz i).trans (n.fz i), n.mm.but k (by simp), (k.cell _ (c _)).trans n.c5, (k.cell _ (c _)).trans n.c6, (k.cell _ (c _)).trans n.c7,
    (k.cell _ (c _)).trans n.c8, (k.cell _ (c _)).trans n.c9, n.fbl, n.bk.but k (by simp)⟩, bt.trans (k.mono (by simp))⟩

theorem Kept.trans2 {S S' : List Nat} {a b c : World} (h : Kept S a b) (k : Kept S' b c) (hs : ∀ i, i ∈ S' → i ∈ S ∨ a.heap.size ≤ i) : Kept S a c :=
  ⟨k.os.trans h.os, k.tape.trans h.tape, k.output.trans h.output, Nat.le_trans h.size k.size, fun i hi hn =>
    (k.block i (Nat.lt_of_lt_of_le hi h.size) fun hm => (hs i hm).elim hn (fun h => by omega)).trans (h.block i hi hn)⟩

/-- a change of the buckets of a point -/
structure BkStep (w w' : World) (d : Nat) (og oh : Option Nat) (s' : Bk) (og' oh' : Option Nat) : Prop where
  now : BkAt w' d s' og' oh'
  kept : Kept (d :: (og.toList ++ oh.toList)) w w'
  cells : ∀ i, i < 10 ∨ 16 ≤ i → w'.cell? ⟨d, i, none⟩ = w.cell? ⟨d, i, none⟩
  fz : ∀ i, w'.frozen? ⟨d, i, none⟩ = w.frozen? ⟨d, i, none⟩
  n1 : Newer w og og'
  n2 : Newer w oh oh'

theorem Newer.trans {w w' : World} {a b c : Option Nat} (h : Newer w a b) (k : Newer w' b c) (hs : w.heap.size ≤ w'.heap.size) : Newer w a c := by
  rcases k with rfl | ⟨g, h1, h2⟩
  · exact h
  · exact .inr ⟨g, h1, by omega⟩
theorem Newer.mem {w : World} {a b : Option Nat} (h : Newer w a b) {i : Nat} (hi : i ∈ b.toList) : i ∈ a.toList ∨ w.heap.size ≤ i := by
  rcases h with rfl | ⟨g, rfl, h2⟩
  · exact .inl hi
  · simp at hi; exact .inr (by omega)
theorem BkStep.trans {w w1 w2 : World} {d : Nat} {og oh og1 oh1 og2 oh2 : Option Nat} {s1 s2 : Bk} (h : BkStep w w1 d og oh s1 og1 oh1) (k : BkStep w1 w2 d og1 oh1 s2 og2 oh2) : BkStep w w2 d og oh s2 og2 oh2 := by
  refine ⟨k.now, h.kept.trans2 k.kept ?_, fun i hi => (k.cells i hi).trans (h.cells i hi), fun i => (k.fz i).trans (h.fz i), h.n1.trans k.n1 h.kept.size, h.n2.trans k.n2 h.kept.size⟩
  intro i hi
  simp only [List.mem_cons, List.mem_append] at hi ⊢
  rcases hi with rfl | hi | hi
  · exact .inl (.inl rfl)
  · rcases h.n1.mem hi with h | h
    · exact .inl (.inr (.inl h))
    · exact .inr h
  · rcases h.n2.mem hi with h | h
    · exact .inl (.inr (.inr h))
    · exact .inr h
theorem BkStep.set {w : World} {d : Nat} {og oh : Option Nat} {s : Bk} (h : BkAt w d s og oh) (S : Int) : BkStep w (w.setCell ⟨d, 10, none⟩ (.int .i32 S)) d og oh { s with sc := S } og oh := by
  have K : PtBut w (w.setCell ⟨d, 10, none⟩ (.int .i32 S)) d [10] := (PtBut.refl _ _ _).set 10 (by simp) _
  refine ⟨⟨?_, h.P.but K (by decide) (by decide), h.N.but K (by decide) (by decide), (K.cell _ (by decide)).trans h.z, h.ap⟩, K.kept.mono (by simp), fun i hi => K.cell i (by simp; omega), K.fz, .inl rfl, .inl rfl⟩
  have z := h.sc
  show (w.setCell ⟨d, 10, none⟩ (.int .i32 S)).cell? ⟨d, 10, none⟩ = some (.int .i32 S)
  go_simp
theorem BkStep.recP {w w' : World} {d : Nat} {og oh : Option Nat} {s : Bk} {st : Int} {l : List Nat} (h : BkAt w d s og oh) (hd : d < w.heap.size) (k : RecPost w w' d 11 st l og) :
    ∃ og', BkStep w w' d og oh { s with ps := st, pl := l } og' oh := by
  obtain ⟨og', a1, a2, a3, a4, a5, a6⟩ := SideAt.other k h.N (by decide) (by decide) (by decide) h.ap hd
  refine ⟨og', ⟨(a5.1 _ (by decide) (by decide)).trans h.sc, a1, a2, (a5.1 _ (by decide) (by decide)).trans h.z, a3⟩, a4.mono ?_, fun i hi => a5.1 i (by omega) (by omega), a5.2, a6, .inl rfl⟩
  intro i hi
  simp only [touched, List.mem_cons, List.mem_append] at hi ⊢
  rcases hi with h | h
  · exact .inl (.inl h)
  · exact .inl (.inr (.inl h))
theorem BkStep.recN {w w' : World} {d : Nat} {og oh : Option Nat} {s : Bk} {st : Int} {l : List Nat} (h : BkAt w d s og oh) (hd : d < w.heap.size) (k : RecPost w w' d 13 st l oh) :
    ∃ oh', BkStep w w' d og oh { s with ns := st, nl := l } og oh' := by
  obtain ⟨oh', a1, a2, a3, a4, a5, a6⟩ := SideAt.other k h.P (by decide) (by decide) (by decide) (fun g e e2 => h.ap g e2 e) hd
  refine ⟨oh', ⟨(a5.1 _ (by decide) (by decide)).trans h.sc, a2, a1, (a5.1 _ (by decide) (by decide)).trans h.z, fun g e e2 => a3 g e2 e⟩, a4.mono ?_, fun i hi => a5.1 i (by omega) (by omega), a5.2, .inl rfl, a6⟩
  intro i hi
  simp only [touched, List.mem_cons, List.mem_append] at hi ⊢
  rcases hi with h | h
  · exact .inl (.inl h)
  · exact .inl (.inr (.inr h))
theorem DpMid.step {w w2 w3 : World} {d v : Nat} {mm : Option (Nat × Nat)} {fb : Nat} {ni ms : Int} {s s' : Bk} {og oh og' oh' : Option Nat} (h : DpMid w w2 d v mm fb ni ms s og oh)
    (k : BkStep w2 w3 d og oh s' og' oh') : DpPost w w3 d v mm fb ni ms s' og oh := h.fin k.now k.kept k.cells k.fz k.n1 k.n2

/-- what 'record' asks of a number and of a point -/
structure RecPre (top v : Nat) (ms : Int) (s : Bk) : Prop where
  hv : v < 18446744073709551616
  hx : absW v ≠ 0
  hx2 : absW v < 2047 * 2 ^ 52
  hn : Lg.near top (absW v) = false
  ht : top ≤ 20
  hS : s.sc ≤ top
  hS1 : -10 ≤ s.sc
  m1 : 1 ≤ ms
  m2 : ms ≤ 1000
  p1 : -1130000000 ≤ s.ps
  p2 : s.ps ≤ 1130000000
  n1 : -1130000000 ≤ s.ns
  n2 : s.ns ≤ 1130000000
  pl : s.pl.length ≤ 1000
  nl : s.nl.length ≤ 1000
  pm : s.pl.sum < 4611686018427387904
  nm : s.nl.sum < 4611686018427387904

theorem RecPre.bin {top v : Nat} {ms : Int} {s : Bk} (h : RecPre top v ms s) (w : World) (d : Nat) (S : Int) (hS : S ≤ top) (hS1 : -10 ≤ S) (hc : w.cell? ⟨d, 10, none⟩ = some (.int .i32 S)) :
    Calls Tryz.prog 129 #[.pointer (some ⟨d, 0, none⟩), .float .f64 (absW v)] w fun e w' => e = .returned (.int .i32 (binW top S (absW v))) ∧ Dr w w' :=
  (getBin129 d 0 (absW v) S top w (Nat.pos_of_ne_zero h.hx) h.hx2 hS hS1 h.ht h.hn hc).mono fun _ _ ⟨a, k, b⟩ => ⟨a, k, b.symm⟩

set_option maxHeartbeats 1000000 in
theorem rec96_putP (d v top : Nat) (mm : Option (Nat × Nat)) (fb : Nat) (ni ms : Int) (s : Bk) (og oh : Option Nat) (w : World) (h : DpAt w d mm fb ni ms s og oh)
    (R : RecPre top v ms s) (hneg : ltW v 0 = false) (hsc : scOf ms (binW top s.sc (absW v)) s.ps s.pl.length = 0) (hlen : (recL s.ps s.pl (binW top s.sc (absW v))).length ≤ 1000) :
    Calls Tryz.prog 96 #[.pointer (some ⟨d, 0, none⟩), .float .f64 v] w fun e w' => e = .returned (.tuple #[]) ∧ DpPost w w' d v mm fb ni ms (s.put false (binW top s.sc (absW v))) og oh := by
  have hze := order_pos_ne_zero (Nat.pos_of_ne_zero R.hx) R.hx2
  have hng : (FloatKind.f64.format.order v 0 == some .lt) = false := hneg
  have c8 := h.c8
  have HSC := Lib.hid hsc
  have HLEN := Lib.hid hlen
  clear hsc hneg hlen
  have R := Lib.hid R
  have H := Lib.hid h
  clear h
  go_enter Tryz.func96, Tryz.ntmps96
  go_wp2_with fail
  refine (upd127 _ _ _ _ H.out.mm H.out.fz).mono ?_; rintro e w1 ⟨rfl, hm1, hb1⟩
  have c9 : w1.cell? ⟨d, 9, none⟩ = some (.bool false) := (hb1.cell _ (by decide)).trans H.out.c9
  have M1 := Lib.hid (And.intro hm1 hb1)
  clear hm1 hb1
  go_wp2_with fail
  refine (sum128 d v fb ni _ ((M1.out.2.cell _ (by decide)).trans H.out.c5) ((M1.out.2.cell _ (by decide)).trans H.out.c6) (fun i => (M1.out.2.fz i).trans (H.out.fz i)) H.out.fbl).mono ?_
  rintro e w2 ⟨rfl, fb', ni', q1, q2, q5, q6, hb2⟩
  have M := Lib.hid (DpMid.make H.out M1.out.1 M1.out.2 q1 q2 q5 q6 hb2)
  clear q1 q2 q5 q6 hb2
  go_wp2_with fail
  refine (abs12 v _ R.out.hv).mono ?_; rintro e w' ⟨rfl, rfl⟩
  go_wp2_with fail
  obtain ⟨fb2, ni2, q2, N⟩ := M.out.now
  have N := Lib.hid N
  clear q2
  refine (R.out.bin _ d s.sc R.out.hS R.out.hS1 N.out.bk.sc).mono ?_; rintro e w3 ⟨rfl, hd3⟩
  have M3 := Lib.hid (M.out.dr hd3)
  clear hd3 N
  obtain ⟨fb3, ni3, q2, N⟩ := M3.out.now
  clear q2
  obtain ⟨e0, e1, hsl⟩ := N.bk.P.slice
  have hst := N.bk.P.1
  have N := Lib.hid N
  obtain ⟨r1, r2⟩ := Lib.hid (binW_range top (absW v) s.sc R.out.ht (Nat.pos_of_ne_zero R.out.hx) R.out.hx2) |>.out
  have RB := Lib.hid (And.intro r1 r2)
  clear r1 r2
  generalize hB : binW top s.sc (absW v) = B at *
  have HB := Lib.hid hB
  clear hB
  go_wp2_with fail
  go_quiet (first | (go_at_call 130; exact quiet_same (scaleChange130 d 0 ms B s.ps s.pl.length _ N.out.c7 R.out.m1 R.out.m2 (by have := RB.out; omega) (by have := RB.out; omega) (by have := R.out.p1; omega) (by have := R.out.p2; omega) (by omega) (by have := R.out.pl; omega))))
  have hsc := HSC.out
  (try rw [hsc])
  generalize hW : w3.drewN _ = w4
  have hd4 : Dr w3 w4 := ⟨_, hW⟩
  have M4 := Lib.hid (M3.out.dr hd4)
  clear hW hd4 M3 N c9 hst hsl
  go_wp2_with fail
  clear hsc
  obtain ⟨fb4, ni4, q2, N⟩ := M4.out.now
  clear q2
  refine (record121 d 11 B s.ps s.pl og w4 N.bk.P N.lt (N.fz _) (N.fz _) R.out.p1 R.out.p2 RB.out.1 RB.out.2 HLEN.out (fun x hx => Nat.lt_of_le_of_lt (mem_le_sum _ _ hx) R.out.pm)).mono ?_
  rintro e w5 ⟨rfl, hp⟩
  obtain ⟨og', hs⟩ := BkStep.recP N.bk N.lt hp
  have FIN := Lib.hid (M4.out.step hs)
  clear hs hp N
  go_wp2_with fail
  go_end0
  rw [HB.out]
  exact ⟨rfl, FIN.out⟩
set_option maxHeartbeats 1000000 in
theorem rec96_putN (d v top : Nat) (mm : Option (Nat × Nat)) (fb : Nat) (ni ms : Int) (s : Bk) (og oh : Option Nat) (w : World) (h : DpAt w d mm fb ni ms s og oh)
    (R : RecPre top v ms s) (hneg : ltW v 0 = true) (hsc : scOf ms (binW top s.sc (absW v)) s.ns s.nl.length = 0) (hlen : (recL s.ns s.nl (binW top s.sc (absW v))).length ≤ 1000) :
    Calls Tryz.prog 96 #[.pointer (some ⟨d, 0, none⟩), .float .f64 v] w fun e w' => e = .returned (.tuple #[]) ∧ DpPost w w' d v mm fb ni ms (s.put true (binW top s.sc (absW v))) og oh := by
  have hze := order_pos_ne_zero (Nat.pos_of_ne_zero R.hx) R.hx2
  have hng : (FloatKind.f64.format.order v 0 == some .lt) = true := hneg
  have c8 := h.c8
  have HSC := Lib.hid hsc
  have HLEN := Lib.hid hlen
  clear hsc hneg hlen
  have R := Lib.hid R
  have H := Lib.hid h
  clear h
  go_enter Tryz.func96, Tryz.ntmps96
  go_wp2_with fail
  refine (upd127 _ _ _ _ H.out.mm H.out.fz).mono ?_; rintro e w1 ⟨rfl, hm1, hb1⟩
  have c9 : w1.cell? ⟨d, 9, none⟩ = some (.bool false) := (hb1.cell _ (by decide)).trans H.out.c9
  have M1 := Lib.hid (And.intro hm1 hb1)
  clear hm1 hb1
  go_wp2_with fail
  refine (sum128 d v fb ni _ ((M1.out.2.cell _ (by decide)).trans H.out.c5) ((M1.out.2.cell _ (by decide)).trans H.out.c6) (fun i => (M1.out.2.fz i).trans (H.out.fz i)) H.out.fbl).mono ?_
  rintro e w2 ⟨rfl, fb', ni', q1, q2, q5, q6, hb2⟩
  have M := Lib.hid (DpMid.make H.out M1.out.1 M1.out.2 q1 q2 q5 q6 hb2)
  clear q1 q2 q5 q6 hb2
  go_wp2_with fail
  refine (abs12 v _ R.out.hv).mono ?_; rintro e w' ⟨rfl, rfl⟩
  go_wp2_with fail
  obtain ⟨fb2, ni2, q2, N⟩ := M.out.now
  have N := Lib.hid N
  clear q2
  refine (R.out.bin _ d s.sc R.out.hS R.out.hS1 N.out.bk.sc).mono ?_; rintro e w3 ⟨rfl, hd3⟩
  have M3 := Lib.hid (M.out.dr hd3)
  clear hd3 N
  obtain ⟨fb3, ni3, q2, N⟩ := M3.out.now
  clear q2
  obtain ⟨e0, e1, hsl⟩ := N.bk.N.slice
  have hst := N.bk.N.1
  have N := Lib.hid N
  obtain ⟨r1, r2⟩ := Lib.hid (binW_range top (absW v) s.sc R.out.ht (Nat.pos_of_ne_zero R.out.hx) R.out.hx2) |>.out
  have RB := Lib.hid (And.intro r1 r2)
  clear r1 r2
  generalize hB : binW top s.sc (absW v) = B at *
  have HB := Lib.hid hB
  clear hB
  go_wp2_with fail
  go_quiet (first | (go_at_call 130; exact quiet_same (scaleChange130 d 0 ms B s.ns s.nl.length _ N.out.c7 R.out.m1 R.out.m2 (by have := RB.out; omega) (by have := RB.out; omega) (by have := R.out.n1; omega) (by have := R.out.n2; omega) (by omega) (by have := R.out.nl; omega))))
  have hsc := HSC.out
  (try rw [hsc])
  generalize hW : w3.drewN _ = w4
  have hd4 : Dr w3 w4 := ⟨_, hW⟩
  have M4 := Lib.hid (M3.out.dr hd4)
  clear hW hd4 M3 N c9 hst hsl
  go_wp2_with fail
  clear hsc
  obtain ⟨fb4, ni4, q2, N⟩ := M4.out.now
  clear q2
  refine (record121 d 13 B s.ns s.nl oh w4 N.bk.N N.lt (N.fz _) (N.fz _) R.out.n1 R.out.n2 RB.out.1 RB.out.2 HLEN.out (fun x hx => Nat.lt_of_le_of_lt (mem_le_sum _ _ hx) R.out.nm)).mono ?_
  rintro e w5 ⟨rfl, hp⟩
  obtain ⟨oh', hs⟩ := BkStep.recN N.bk N.lt hp
  have FIN := Lib.hid (M4.out.step hs)
  clear hs hp N
  go_wp2_with fail
  go_end0
  rw [HB.out]
  exact ⟨rfl, FIN.out⟩
end Go.Proofs.YtlpddogcnpokfaaGreat
