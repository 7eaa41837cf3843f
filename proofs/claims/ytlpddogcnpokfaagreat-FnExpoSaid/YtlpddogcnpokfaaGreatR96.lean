/- the measurement (record) -/
import Derived.Test.YtlpddogcnpokfaaGreatPs3
namespace Go.Proofs.YtlpddogcnpokfaaGreat
open Go.RowKit
set_option maxHeartbeats 1000000 in
theorem rec96_tooP (d v top k : Nat) (mm : Option (Nat × Nat)) (fb : Nat) (ni ms : Int) (s : Bk) (og oh : Option Nat) (w : World) (h : DpAt w d mm fb ni ms s og oh)
    (R : RecPre top v ms s) (hneg : ltW v 0 = false) (hsc : scOf ms (binW top s.sc (absW v)) s.ps s.pl.length = (k : Int)) (hk : 0 < k) (hlo : s.sc - k < -10) :
    Calls Tryz.prog 96 #[.pointer (some ⟨d, 0, none⟩), .float .f64 v] w fun e w' => e = .returned (.tuple #[]) ∧ DpPost w w' d v mm fb ni ms s og oh := by
  have hze := order_pos_ne_zero (Nat.pos_of_ne_zero R.hx) R.hx2
  have hng : (FloatKind.f64.format.order v 0 == some .lt) = false := hneg
  have c8 := h.c8
  have HSC := Lib.hid hsc
  have hk31 : k ≤ 31 := by have := (scOf_le ms (binW top s.sc (absW v)) s.ps s.pl.length).2; omega
  clear hsc hneg
  have R := Lib.hid R
  have H := Lib.hid h
  clear h
  go_enter Tryz.func96, Tryz.ntmps96
  go_wp2_with fail
  refine (upd127 _ _ _ _ H.out.mm H.out.fz).mono ?_; rintro e w1 ⟨rfl, hm1, hb1⟩
  have c9 : w1.cell? ⟨d, 9, none⟩ = some (.bool false) := (hb1.cell _ (by decide)).trans H.out.c9
  have M1 := Lib.hid (And.intro hm1 hb1)
  clear hm1 hb1
  go_wp2_with fail
  refine (sum128 d v fb ni _ ((M1.out.2.cell _ (by decide)).trans H.out.c5) ((M1.out.2.cell _ (by decide)).trans H.out.c6) (fun i => (M1.out.2.fz i).trans (H.out.fz i)) H.out.fbl).mono ?_
  rintro e w2 ⟨rfl, fb', ni', q1, q2, q5, q6, hb2⟩
  have M := Lib.hid (DpMid.make H.out M1.out.1 M1.out.2 q1 q2 q5 q6 hb2)
  clear q1 q2 q5 q6 hb2
  go_wp2_with fail
  refine (abs12 v _ R.out.hv).mono ?_; rintro e w' ⟨rfl, rfl⟩
  go_wp2_with fail
  obtain ⟨fb2, ni2, q2, N⟩ := M.out.now
  have N := Lib.hid N
  clear q2
  refine (R.out.bin _ d s.sc R.out.hS R.out.hS1 N.out.bk.sc).mono ?_; rintro e w3 ⟨rfl, hd3⟩
  have M3 := Lib.hid (M.out.dr hd3)
  clear hd3 N
  obtain ⟨fb3, ni3, q2, N⟩ := M3.out.now
  clear q2
  obtain ⟨e0, e1, hsl⟩ := N.bk.P.slice
  have hst := N.bk.P.1
  have N := Lib.hid N
  obtain ⟨r1, r2⟩ := Lib.hid (binW_range top (absW v) s.sc R.out.ht (Nat.pos_of_ne_zero R.out.hx) R.out.hx2) |>.out
  have RB := Lib.hid (And.intro r1 r2)
  clear r1 r2
  generalize hB : binW top s.sc (absW v) = B at *
  have HB := Lib.hid hB
  clear hB
  go_wp2_with fail
  go_quiet (first | (go_at_call 130; exact quiet_same (scaleChange130 d 0 ms B s.ps s.pl.length _ N.out.c7 R.out.m1 R.out.m2 (by have := RB.out; omega) (by have := RB.out; omega) (by have := R.out.p1; omega) (by have := R.out.p2; omega) (by omega) (by have := R.out.pl; omega))))
  have hsc := HSC.out
  (try rw [hsc])
  generalize hW : w3.drewN _ = w4
  have hd4 : Dr w3 w4 := ⟨_, hW⟩
  have M4 := Lib.hid (M3.out.dr hd4)
  clear hW hd4 M3 N c9 hst hsl hsc
  have hk0 : decide ((k : Int) > 0) = true := by simpa using hk
  have s1 : s.sc ≤ 20 := by have := R.out.hS; have := R.out.ht; omega
  have s2 := R.out.hS1
  have hw1 : IntKind.i32.wrap (s.sc - (k : Int)) = s.sc - (k : Int) := IntWalk.i32_in _ (by omega)
  have hlo' : decide (s.sc - (k : Int) < -10) = true := by simpa using hlo
  go_wp2_with fail
  obtain ⟨fb4, ni4, q2, N⟩ := M4.out.now
  clear q2
  refine (load79 _ _ w4 N.bk.sc).mono ?_; rintro e w5 ⟨rfl, rfl⟩
  have FIN := Lib.hid (M4.out.fin N.bk ((Kept.refl _ _)) (fun _ _ => rfl) (fun _ => rfl) (.inl rfl) (.inl rfl))
  clear N
  go_wp2_with fail
  (try simp only [Exit.inBlock, Exit.then])
  refine bodyPost_ret (results_none rfl _ _ _) rfl ?_
  exact ⟨rfl, FIN.out⟩
set_option maxHeartbeats 1000000 in
theorem rec96_tooN (d v top k : Nat) (mm : Option (Nat × Nat)) (fb : Nat) (ni ms : Int) (s : Bk) (og oh : Option Nat) (w : World) (h : DpAt w d mm fb ni ms s og oh)
    (R : RecPre top v ms s) (hneg : ltW v 0 = true) (hsc : scOf ms (binW top s.sc (absW v)) s.ns s.nl.length = (k : Int)) (hk : 0 < k) (hlo : s.sc - k < -10) :
    Calls Tryz.prog 96 #[.pointer (some ⟨d, 0, none⟩), .float .f64 v] w fun e w' => e = .returned (.tuple #[]) ∧ DpPost w w' d v mm fb ni ms s og oh := by
  have hze := order_pos_ne_zero (Nat.pos_of_ne_zero R.hx) R.hx2
  have hng : (FloatKind.f64.format.order v 0 == some .lt) = true := hneg
  have c8 := h.c8
  have HSC := Lib.hid hsc
  have hk31 : k ≤ 31 := by have := (scOf_le ms (binW top s.sc (absW v)) s.ns s.nl.length).2; omega
  clear hsc hneg
  have R := Lib.hid R
  have H := Lib.hid h
  clear h
  go_enter Tryz.func96, Tryz.ntmps96
  go_wp2_with fail
  refine (upd127 _ _ _ _ H.out.mm H.out.fz).mono ?_; rintro e w1 ⟨rfl, hm1, hb1⟩
  have c9 : w1.cell? ⟨d, 9, none⟩ = some (.bool false) := (hb1.cell _ (by decide)).trans H.out.c9
  have M1 := Lib.hid (And.intro hm1 hb1)
  clear hm1 hb1
  go_wp2_with fail
  refine (sum128 d v fb ni _ ((M1.out.2.cell _ (by decide)).trans H.out.c5) ((M1.out.2.cell _ (by decide)).trans H.out.c6) (fun i => (M1.out.2.fz i).trans (H.out.fz i)) H.out.fbl).mono ?_
  rintro e w2 ⟨rfl, fb', ni', q1, q2, q5, q6, hb2⟩
  have M := Lib.hid (DpMid.make H.out M1.out.1 M1.out.2 q1 q2 q5 q6 hb2)
  clear q1 q2 q5 q6 hb2
  go_wp2_with fail
  refine (abs12 v _ R.out.hv).mono ?_; rintro e w' ⟨rfl, rfl⟩
  go_wp2_with fail
  obtain ⟨fb2, ni2, q2, N⟩ := M.out.now
  have N := Lib.hid N
  clear q2
  refine (R.out.bin _ d s.sc R.out.hS R.out.hS1 N.out.bk.sc).mono ?_; rintro e w3 ⟨rfl, hd3⟩
  have M3 := Lib.hid (M.out.dr hd3)
  clear hd3 N
  obtain ⟨fb3, ni3, q2, N⟩ := M3.out.now
  clear q2
  obtain ⟨e0, e1, hsl⟩ := N.bk.N.slice
  have hst := N.bk.N.1
  have N := Lib.hid N
  obtain ⟨r1, r2⟩ := Lib.hid (binW_range top (absW v) s.sc R.out.ht (Nat.pos_of_ne_zero R.out.hx) R.out.hx2) |>.out
  have RB := Lib.hid (And.intro r1 r2)
  clear r1 r2
  generalize hB : binW top s.sc (absW v) = B at *
  have HB := Lib.hid hB
  clear hB
  go_wp2_with fail
  go_quiet (first | (go_at_call 130; exact quiet_same (scaleChange130 d 0 ms B s.ns s.nl.length _ N.out.c7 R.out.m1 R.out.m2 (by have := RB.out; omega) (by have := RB.out; omega) (by have := R.out.n1; omega) (by have := R.out.n2; omega) (by omega) (by have := R.out.nl; omega))))
  have hsc := HSC.out
  (try rw [hsc])
  generalize hW : w3.drewN _ = w4
  have hd4 : Dr w3 w4 := ⟨_, hW⟩
  have M4 := Lib.hid (M3.out.dr hd4)
  clear hW hd4 M3 N c9 hst hsl hsc
  have hk0 : decide ((k : Int) > 0) = true := by simpa using hk
  have s1 : s.sc ≤ 20 := by have := R.out.hS; have := R.out.ht; omega
  have s2 := R.out.hS1
  have hw1 : IntKind.i32.wrap (s.sc - (k : Int)) = s.sc - (k : Int) := IntWalk.i32_in _ (by omega)
  have hlo' : decide (s.sc - (k : Int) < -10) = true := by simpa using hlo
  go_wp2_with fail
  obtain ⟨fb4, ni4, q2, N⟩ := M4.out.now
  clear q2
  refine (load79 _ _ w4 N.bk.sc).mono ?_; rintro e w5 ⟨rfl, rfl⟩
  have FIN := Lib.hid (M4.out.fin N.bk ((Kept.refl _ _)) (fun _ _ => rfl) (fun _ => rfl) (.inl rfl) (.inl rfl))
  clear N
  go_wp2_with fail
  (try simp only [Exit.inBlock, Exit.then])
  refine bodyPost_ret (results_none rfl _ _ _) rfl ?_
  exact ⟨rfl, FIN.out⟩
end Go.Proofs.YtlpddogcnpokfaaGreat
namespace Go.Proofs.YtlpddogcnpokfaaGreat
open Go.RowKit
theorem BkStep.dr {w w1 w2 : World} {d : Nat} {og oh og1 oh1 : Option Nat} {s1 : Bk} (h : BkStep w w1 d og oh s1 og1 oh1) (hd : Dr w1 w2) : BkStep w w2 d og oh s1 og1 oh1 := by
  have K : PtBut w1 w2 d [] := PtBut.ofDr hd
  exact ⟨h.now.but K (by simp), h.kept.dr hd, fun i hi => (K.cell i (by simp)).trans (h.cells i hi), fun i => (K.fz i).trans (h.fz i), h.n1, h.n2⟩
set_option maxHeartbeats 1000000 in
theorem rec96_dnP (d v top k : Nat) (mm : Option (Nat × Nat)) (fb : Nat) (ni ms : Int) (s : Bk) (og oh : Option Nat) (w : World) (h : DpAt w d mm fb ni ms s og oh)
    (R : RecPre top v ms s) (hneg : ltW v 0 = false) (hsc : scOf ms (binW top s.sc (absW v)) s.ps s.pl.length = (k : Int)) (hk : 0 < k) (hlo : -10 ≤ s.sc - k) (hlen : (recL (s.ps / ((2 ^ k : Nat) : Int)) (dsSide s.ps s.pl k) (binW top (s.sc - k) (absW v))).length ≤ 1000) :
    Calls Tryz.prog 96 #[.pointer (some ⟨d, 0, none⟩), .float .f64 v] w fun e w' => e = .returned (.tuple #[]) ∧ DpPost w w' d v mm fb ni ms ((s.down k).put false (binW top (s.sc - k) (absW v))) og oh := by
  have hze := order_pos_ne_zero (Nat.pos_of_ne_zero R.hx) R.hx2
  have hng : (FloatKind.f64.format.order v 0 == some .lt) = false := hneg
  have c8 := h.c8
  have HSC := Lib.hid hsc
  have hk31 : k ≤ 31 := by have := (scOf_le ms (binW top s.sc (absW v)) s.ps s.pl.length).2; omega
  have HLEN := Lib.hid hlen
  clear hsc hneg hlen
  have R := Lib.hid R
  have H := Lib.hid h
  clear h
  go_enter Tryz.func96, Tryz.ntmps96
  go_wp2_with fail
  refine (upd127 _ _ _ _ H.out.mm H.out.fz).mono ?_; rintro e w1 ⟨rfl, hm1, hb1⟩
  have c9 : w1.cell? ⟨d, 9, none⟩ = some (.bool false) := (hb1.cell _ (by decide)).trans H.out.c9
  have M1 := Lib.hid (And.intro hm1 hb1)
  clear hm1 hb1
  go_wp2_with fail
  refine (sum128 d v fb ni _ ((M1.out.2.cell _ (by decide)).trans H.out.c5) ((M1.out.2.cell _ (by decide)).trans H.out.c6) (fun i => (M1.out.2.fz i).trans (H.out.fz i)) H.out.fbl).mono ?_
  rintro e w2 ⟨rfl, fb', ni', q1, q2, q5, q6, hb2⟩
  have M := Lib.hid (DpMid.make H.out M1.out.1 M1.out.2 q1 q2 q5 q6 hb2)
  clear q1 q2 q5 q6 hb2
  go_wp2_with fail
  refine (abs12 v _ R.out.hv).mono ?_; rintro e w' ⟨rfl, rfl⟩
  go_wp2_with fail
  obtain ⟨fb2, ni2, q2, N⟩ := M.out.now
  have N := Lib.hid N
  clear q2
  refine (R.out.bin _ d s.sc R.out.hS R.out.hS1 N.out.bk.sc).mono ?_; rintro e w3 ⟨rfl, hd3⟩
  have M3 := Lib.hid (M.out.dr hd3)
  clear hd3 N
  obtain ⟨fb3, ni3, q2, N⟩ := M3.out.now
  clear q2
  obtain ⟨e0, e1, hsl⟩ := N.bk.P.slice
  have hst := N.bk.P.1
  have N := Lib.hid N
  obtain ⟨r1, r2⟩ := Lib.hid (binW_range top (absW v) s.sc R.out.ht (Nat.pos_of_ne_zero R.out.hx) R.out.hx2) |>.out
  have RB := Lib.hid (And.intro r1 r2)
  clear r1 r2
  generalize hB : binW top s.sc (absW v) = B at *
  have HB := Lib.hid hB
  clear hB
  go_wp2_with fail
  go_quiet (first | (go_at_call 130; exact quiet_same (scaleChange130 d 0 ms B s.ps s.pl.length _ N.out.c7 R.out.m1 R.out.m2 (by have := RB.out; omega) (by have := RB.out; omega) (by have := R.out.p1; omega) (by have := R.out.p2; omega) (by omega) (by have := R.out.pl; omega))))
  have hsc := HSC.out
  (try rw [hsc])
  generalize hW : w3.drewN _ = w4
  have hd4 : Dr w3 w4 := ⟨_, hW⟩
  have M4 := Lib.hid (M3.out.dr hd4)
  clear hW hd4 M3 N c9 hst hsl hsc
  have hk0 : decide ((k : Int) > 0) = true := by simpa using hk
  have s1 : s.sc ≤ 20 := by have := R.out.hS; have := R.out.ht; omega
  have s2 := R.out.hS1
  have hw1 : IntKind.i32.wrap (s.sc - (k : Int)) = s.sc - (k : Int) := IntWalk.i32_in _ (by omega)
  have hlo' : decide (s.sc - (k : Int) < -10) = false := by simpa using hlo
  have hw2 : IntKind.i32.wrap (-(k : Int)) = -(k : Int) := IntWalk.i32_in _ (by omega)
  go_wp2_with fail
  obtain ⟨fb4, ni4, q2, N⟩ := M4.out.now
  clear q2
  have N := Lib.hid N
  refine (load79 _ _ w4 N.out.bk.sc).mono ?_; rintro e w5 ⟨rfl, rfl⟩
  go_wp2_with fail
  refine (addI119 _ s.sc (-(k : Int)) w4 N.out.bk.sc (N.out.fz _) (by omega) (by omega)).mono ?_; rintro e w5 ⟨rfl, hw5⟩
  have h5 : BkStep w4 w5 d og oh { s with sc := s.sc - k } og oh := by
    rw [← hw5]; exact BkStep.set N.out.bk _
  have ST := Lib.hid h5
  have l5 := Nat.lt_of_lt_of_le N.out.lt ST.out.kept.size
  have f5 := fun i => (ST.out.fz i).trans (N.out.fz i)
  have L5 := Lib.hid l5
  have F5 := Lib.hid f5
  clear h5 hw5 l5 f5
  go_wp2_with fail
  refine (downscale120 d 11 s.ps s.pl og k w5 ST.out.now.P (F5.out _) (F5.out _) R.out.p1 R.out.p2 hk (by omega) R.out.pl R.out.pm).mono ?_; rintro e w6 ⟨rfl, hp⟩
  obtain ⟨og6, h6⟩ := BkStep.recP ST.out.now L5.out hp
  have ST6 := Lib.hid (ST.out.trans h6)
  have L6 := Lib.hid (Nat.lt_of_lt_of_le N.out.lt ST6.out.kept.size)
  have F6 := Lib.hid fun i => (ST6.out.fz i).trans (N.out.fz i)
  clear h6 hp ST L5 F5
  go_wp2_with fail
  refine (downscale120 d 13 s.ns s.nl oh k w6 ST6.out.now.N (F6.out _) (F6.out _) R.out.n1 R.out.n2 hk (by omega) R.out.nl R.out.nm).mono ?_; rintro e w7 ⟨rfl, hp⟩
  obtain ⟨oh7, h7⟩ := BkStep.recN ST6.out.now L6.out hp
  have ST7 := Lib.hid (ST6.out.trans h7)
  clear h7 hp ST6 L6 F6
  go_wp2_with fail
  refine (R.out.bin w7 d (s.sc - k) (by have := R.out.hS; omega) hlo ST7.out.now.sc).mono ?_; rintro e w8 ⟨rfl, hd8⟩
  have ST8 := Lib.hid (ST7.out.dr hd8)
  have L8 := Lib.hid (Nat.lt_of_lt_of_le N.out.lt ST8.out.kept.size)
  have F8 := Lib.hid fun i => (ST8.out.fz i).trans (N.out.fz i)
  have R8 := Lib.hid (binW_range top (absW v) (s.sc - k) R.out.ht (Nat.pos_of_ne_zero R.out.hx) R.out.hx2)
  have D8 := Lib.hid (div_range s.ps (2 ^ k) _ R.out.p1 R.out.p2 (Nat.two_pow_pos _))
  clear hd8 ST7
  go_wp2_with fail
  refine (record121 d 11 _ _ _ og6 w8 ST8.out.now.P L8.out (F8.out _) (F8.out _) D8.out.1 D8.out.2 R8.out.1 R8.out.2 HLEN.out (fun x hx => Nat.lt_of_le_of_lt (dsSide_le _ _ _ _ hx) R.out.pm)).mono ?_
  rintro e w9 ⟨rfl, hp⟩
  obtain ⟨og9, h9⟩ := BkStep.recP ST8.out.now L8.out hp
  have FIN := Lib.hid (M4.out.step (ST8.out.trans h9))
  clear h9 hp
  go_wp2_with fail
  go_end0
  exact ⟨rfl, FIN.out⟩
set_option maxHeartbeats 1000000 in
theorem rec96_dnN (d v top k : Nat) (mm : Option (Nat × Nat)) (fb : Nat) (ni ms : Int) (s : Bk) (og oh : Option Nat) (w : World) (h : DpAt w d mm fb ni ms s og oh)
    (R : RecPre top v ms s) (hneg : ltW v 0 = true) (hsc : scOf ms (binW top s.sc (absW v)) s.ns s.nl.length = (k : Int)) (hk : 0 < k) (hlo : -10 ≤ s.sc - k) (hlen : (recL (s.ns / ((2 ^ k : Nat) : Int)) (dsSide s.ns s.nl k) (binW top (s.sc - k) (absW v))).length ≤ 1000) :
    Calls Tryz.prog 96 #[.pointer (some ⟨d, 0, none⟩), .float .f64 v] w fun e w' => e = .returned (.tuple #[]) ∧ DpPost w w' d v mm fb ni ms ((s.down k).put true (binW top (s.sc - k) (absW v))) og oh := by
  have hze := order_pos_ne_zero (Nat.pos_of_ne_zero R.hx) R.hx2
  have hng : (FloatKind.f64.format.order v 0 == some .lt) = true := hneg
  have c8 := h.c8
  have HSC := Lib.hid hsc
  have hk31 : k ≤ 31 := by have := (scOf_le ms (binW top s.sc (absW v)) s.ns s.nl.length).2; omega
  have HLEN := Lib.hid hlen
  clear hsc hneg hlen
  have R := Lib.hid R
  have H := Lib.hid h
  clear h
  go_enter Tryz.func96, Tryz.ntmps96
  go_wp2_with fail
  refine (upd127 _ _ _ _ H.out.mm H.out.fz).mono ?_; rintro e w1 ⟨rfl, hm1, hb1⟩
  have c9 : w1.cell? ⟨d, 9, none⟩ = some (.bool false) := (hb1.cell _ (by decide)).trans H.out.c9
  have M1 := Lib.hid (And.intro hm1 hb1)
  clear hm1 hb1
  go_wp2_with fail
  refine (sum128 d v fb ni _ ((M1.out.2.cell _ (by decide)).trans H.out.c5) ((M1.out.2.cell _ (by decide)).trans H.out.c6) (fun i => (M1.out.2.fz i).trans (H.out.fz i)) H.out.fbl).mono ?_
  rintro e w2 ⟨rfl, fb', ni', q1, q2, q5, q6, hb2⟩
  have M := Lib.hid (DpMid.make H.out M1.out.1 M1.out.2 q1 q2 q5 q6 hb2)
  clear q1 q2 q5 q6 hb2
  go_wp2_with fail
  refine (abs12 v _ R.out.hv).mono ?_; rintro e w' ⟨rfl, rfl⟩
  go_wp2_with fail
  obtain ⟨fb2, ni2, q2, N⟩ := M.out.now
  have N := Lib.hid N
  clear q2
  refine (R.out.bin _ d s.sc R.out.hS R.out.hS1 N.out.bk.sc).mono ?_; rintro e w3 ⟨rfl, hd3⟩
  have M3 := Lib.hid (M.out.dr hd3)
  clear hd3 N
  obtain ⟨fb3, ni3, q2, N⟩ := M3.out.now
  clear q2
  obtain ⟨e0, e1, hsl⟩ := N.bk.N.slice
  have hst := N.bk.N.1
  have N := Lib.hid N
  obtain ⟨r1, r2⟩ := Lib.hid (binW_range top (absW v) s.sc R.out.ht (Nat.pos_of_ne_zero R.out.hx) R.out.hx2) |>.out
  have RB := Lib.hid (And.intro r1 r2)
  clear r1 r2
  generalize hB : binW top s.sc (absW v) = B at *
  have HB := Lib.hid hB
  clear hB
  go_wp2_with fail
  go_quiet (first | (go_at_call 130; exact quiet_same (scaleChange130 d 0 ms B s.ns s.nl.length _ N.out.c7 R.out.m1 R.out.m2 (by have := RB.out; omega) (by have := RB.out; omega) (by have := R.out.n1; omega) (by have := R.out.n2; omega) (by omega) (by have := R.out.nl; omega))))
  have hsc := HSC.out
  (try rw [hsc])
  generalize hW : w3.drewN _ = w4
  have hd4 : Dr w3 w4 := ⟨_, hW⟩
  have M4 := Lib.hid (M3.out.dr hd4)
  clear hW hd4 M3 N c9 hst hsl hsc
  have hk0 : decide ((k : Int) > 0) = true := by simpa using hk
  have s1 : s.sc ≤ 20 := by have := R.out.hS; have := R.out.ht; omega
  have s2 := R.out.hS1
  have hw1 : IntKind.i32.wrap (s.sc - (k : Int)) = s.sc - (k : Int) := IntWalk.i32_in _ (by omega)
  have hlo' : decide (s.sc - (k : Int) < -10) = false := by simpa using hlo
  have hw2 : IntKind.i32.wrap (-(k : Int)) = -(k : Int) := IntWalk.i32_in _ (by omega)
  go_wp2_with fail
  obtain ⟨fb4, ni4, q2, N⟩ := M4.out.now
  clear q2
  have N := Lib.hid N
  refine (load79 _ _ w4 N.out.bk.sc).mono ?_; rintro e w5 ⟨rfl, rfl⟩
  go_wp2_with fail
  refine (addI119 _ s.sc (-(k : Int)) w4 N.out.bk.sc (N.out.fz _) (by omega) (by omega)).mono ?_; rintro e w5 ⟨rfl, hw5⟩
  have h5 : BkStep w4 w5 d og oh { s with sc := s.sc - k } og oh := by
    rw [← hw5]; exact BkStep.set N.out.bk _
  have ST := Lib.hid h5
  have l5 := Nat.lt_of_lt_of_le N.out.lt ST.out.kept.size
  have f5 := fun i => (ST.out.fz i).trans (N.out.fz i)
  have L5 := Lib.hid l5
  have F5 := Lib.hid f5
  clear h5 hw5 l5 f5
  go_wp2_with fail
  refine (downscale120 d 11 s.ps s.pl og k w5 ST.out.now.P (F5.out _) (F5.out _) R.out.p1 R.out.p2 hk (by omega) R.out.pl R.out.pm).mono ?_; rintro e w6 ⟨rfl, hp⟩
  obtain ⟨og6, h6⟩ := BkStep.recP ST.out.now L5.out hp
  have ST6 := Lib.hid (ST.out.trans h6)
  have L6 := Lib.hid (Nat.lt_of_lt_of_le N.out.lt ST6.out.kept.size)
  have F6 := Lib.hid fun i => (ST6.out.fz i).trans (N.out.fz i)
  clear h6 hp ST L5 F5
  go_wp2_with fail
  refine (downscale120 d 13 s.ns s.nl oh k w6 ST6.out.now.N (F6.out _) (F6.out _) R.out.n1 R.out.n2 hk (by omega) R.out.nl R.out.nm).mono ?_; rintro e w7 ⟨rfl, hp⟩
  obtain ⟨oh7, h7⟩ := BkStep.recN ST6.out.now L6.out hp
  have ST7 := Lib.hid (ST6.out.trans h7)
  clear h7 hp ST6 L6 F6
  go_wp2_with fail
  refine (R.out.bin w7 d (s.sc - k) (by have := R.out.hS; omega) hlo ST7.out.now.sc).mono ?_; rintro e w8 ⟨rfl, hd8⟩
  have ST8 := Lib.hid (ST7.out.dr hd8)
  have L8 := Lib.hid (Nat.lt_of_lt_of_le N.out.lt ST8.out.kept.size)
  have F8 := Lib.hid fun i => (ST8.out.fz i).trans (N.out.fz i)
  have R8 := Lib.hid (binW_range top (absW v) (s.sc - k) R.out.ht (Nat.pos_of_ne_zero R.out.hx) R.out.hx2)
  have D8 := Lib.hid (div_range s.ns (2 ^ k) _ R.out.n1 R.out.n2 (Nat.two_pow_pos _))
  clear hd8 ST7
  go_wp2_with fail
  refine (record121 d 13 _ _ _ oh7 w8 ST8.out.now.N L8.out (F8.out _) (F8.out _) D8.out.1 D8.out.2 R8.out.1 R8.out.2 HLEN.out (fun x hx => Nat.lt_of_le_of_lt (dsSide_le _ _ _ _ hx) R.out.nm)).mono ?_
  rintro e w9 ⟨rfl, hp⟩
  obtain ⟨oh9, h9⟩ := BkStep.recN ST8.out.now L8.out hp
  have FIN := Lib.hid (M4.out.step (ST8.out.trans h9))
  clear h9 hp
  go_wp2_with fail
  go_end0
  exact ⟨rfl, FIN.out⟩
end Go.Proofs.YtlpddogcnpokfaaGreat
namespace Go.Proofs.YtlpddogcnpokfaaGreat
open Go.RowKit

/-- A MEASUREMENT. -/
theorem record96 (d v top : Nat) (mm : Option (Nat × Nat)) (fb : Nat) (ni ms : Int) (s : Bk) (og oh : Option Nat) (w : World) (h : DpAt w d mm fb ni ms s og oh)
    (hv : v < 18446744073709551616) (hzc : s.zc < 4611686018427387904) (R : absW v ≠ 0 → RecPre top v ms s) (hp : (recBk top ms v s).pl.length ≤ 1000) (hn : (recBk top ms v s).nl.length ≤ 1000) :
    Calls Tryz.prog 96 #[.pointer (some ⟨d, 0, none⟩), .float .f64 v] w fun e w' => e = .returned (.tuple #[]) ∧ DpPost w w' d v mm fb ni ms (recBk top ms v s) og oh := by
  unfold recBk at hp hn ⊢
  by_cases hz : absW v = 0
  · simp only [if_pos hz]
    exact rec96_zero d v mm fb ni ms s og oh w h hv hz hzc
  have R := R hz
  simp only [if_neg hz] at hp hn ⊢
  by_cases hneg : ltW v 0 = true
  · simp only [hneg, Bk.st, Bk.row, if_true] at hp hn ⊢
    obtain ⟨k, hk⟩ : ∃ k : Nat, scOf ms (binW top s.sc (absW v)) s.ns s.nl.length = (k : Int) := ⟨(scOf ms (binW top s.sc (absW v)) s.ns s.nl.length).toNat, by have := (scOf_le ms (binW top s.sc (absW v)) s.ns s.nl.length).1; omega⟩
    simp only [hk, Int.toNat_natCast] at hp hn ⊢
    by_cases h0 : k = 0
    · subst h0
      simp only [if_true] at hp hn ⊢
      exact rec96_putN d v top mm fb ni ms s og oh w h R hneg hk hn
    · simp only [if_neg h0] at hp hn ⊢
      by_cases hlo : s.sc - (k : Int) < -10
      · simp only [if_pos hlo]
        exact rec96_tooN d v top k mm fb ni ms s og oh w h R hneg hk (Nat.pos_of_ne_zero h0) hlo
      · simp only [if_neg hlo] at hp hn ⊢
        exact rec96_dnN d v top k mm fb ni ms s og oh w h R hneg hk (Nat.pos_of_ne_zero h0) (by omega) hn
  · have hneg : ltW v 0 = false := by simpa using hneg
    simp only [hneg, Bk.st, Bk.row, Bool.false_eq_true, if_false] at hp hn ⊢
    obtain ⟨k, hk⟩ : ∃ k : Nat, scOf ms (binW top s.sc (absW v)) s.ps s.pl.length = (k : Int) := ⟨(scOf ms (binW top s.sc (absW v)) s.ps s.pl.length).toNat, by have := (scOf_le ms (binW top s.sc (absW v)) s.ps s.pl.length).1; omega⟩
    simp only [hk, Int.toNat_natCast] at hp hn ⊢
    by_cases h0 : k = 0
    · subst h0
      simp only [if_true] at hp hn ⊢
      exact rec96_putP d v top mm fb ni ms s og oh w h R hneg hk hp
    · simp only [if_neg h0] at hp hn ⊢
      by_cases hlo : s.sc - (k : Int) < -10
      · simp only [if_pos hlo]
        exact rec96_tooP d v top k mm fb ni ms s og oh w h R hneg hk (Nat.pos_of_ne_zero h0) hlo
      · simp only [if_neg hlo] at hp hn ⊢
        exact rec96_dnP d v top k mm fb ni ms s og oh w h R hneg hk (Nat.pos_of_ne_zero h0) (by omega) hp
end Go.Proofs.YtlpddogcnpokfaaGreat
