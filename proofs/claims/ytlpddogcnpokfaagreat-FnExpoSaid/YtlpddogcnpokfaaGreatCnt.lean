/- counts and sums -/
import Derived.Test.YtlpddogcnpokfaaGreatR96
import Derived.StillTailTactics
namespace Go.Proofs.YtlpddogcnpokfaaGreat
open Go.RowKit

theorem load123 (a : Addr) (n : Int) (w : World) (hc : w.cell? a = some (.int .i64 n)) :
    Calls Tryz.prog 123 #[.pointer (some a)] w fun e w' => e = .returned (.int .i64 n) ∧ w = w' := by
  go_enter Tryz.func123, Tryz.ntmps123
  go_wp2
  go_ret
  exact ⟨rfl, rfl⟩

set_option maxRecDepth 100000 in
set_option maxHeartbeats 400000 in
/-- the sum: its two parts together -/
theorem sum99 (b o fb : Nat) (ni : Int) (w : World) (h0 : w.cell? ⟨b, o, none⟩ = some (U fb)) (h1 : w.cell? ⟨b, o + 1, none⟩ = some (.int .i64 ni)) (_hfb : fb < 18446744073709551616) :
    Calls Tryz.prog 99 #[.pointer (some ⟨b, o, none⟩)] w fun e w' => Dr w w' ∧ ∃ r, e = .returned (.float .f64 r) ∧ r < 18446744073709551616 ∧ ∀ r0, floatBits .add .f64 fb (floatOfInt .f64 ni) = some r0 → r = r0 := by
  obtain ⟨r, w2, hr2, hd2, hk3, hk4⟩ := add_any fb (floatOfInt .f64 ni) w
  have h0' : w.cell? ⟨b, o, none⟩ = some (.int .u64 (fb : Int)) := h0
  have m1 := mk32
  have m2 := as32i
  have m3 := as32f
  have HD2 := Lib.hid hd2
  have HK := Lib.hid (And.intro hk3 hk4)
  clear hd2 hk3 hk4 h0
  go_enter Tryz.func99, Tryz.ntmps99
  go_wp2_with fail
  refine (load80 _ _ _ h0').mono ?_; rintro e w' ⟨rfl, rfl⟩
  go_wp2_with fail
  refine (load123 _ _ _ h1).mono ?_; rintro e w' ⟨rfl, rfl⟩
  go_wp2_with fail
  go_ret
  exact ⟨HD2.out.dr, r, rfl, HK.out.2, HK.out.1⟩
end Go.Proofs.YtlpddogcnpokfaaGreat
namespace Go.Proofs.YtlpddogcnpokfaaGreat
open Go.RowKit

theorem rowU {w : World} {g : Nat} {F l : List Nat} (hg : w.heap[g]? = some (rowObj F)) (ht : F.take l.length = l) (m : Nat) (hm : m < l.length) : w.cell? ⟨g, m, none⟩ = some (U (l.getD m 0)) ∧ w.frozen? ⟨g, m, none⟩ = false := by
  have hF : F[m]? = some (l.getD m 0) := by
    have : (F.take l.length)[m]? = F[m]? := by rw [List.getElem?_take]; simp [hm]
    rw [← this, ht, List.getD_eq_getElem?_getD, List.getElem?_eq_getElem hm]; rfl
  constructor
  · unfold World.cell? rowObj at *
    simp [hg, hF]
  · unfold World.frozen? rowObj at *
    simp [hg]
theorem take_succ_sum (l : List Nat) (m : Nat) (h : m < l.length) : (l.take (m + 1)).sum = (l.take m).sum + l.getD m 0 := by
  rw [List.take_add_one, List.sum_append, List.getD_eq_getElem?_getD, List.getElem?_eq_getElem h]; simp

theorem count122_nil (b o : Nat) (w : World) (hv : w.cell? ⟨b, o + 1, none⟩ = some (.slice none 0 0)) :
    Calls Tryz.prog 122 #[.pointer (some ⟨b, o, none⟩)] w fun e w' => e = .returned (U 0) ∧ w = w' := by
  go_enter Tryz.func122, Tryz.ntmps122
  go_wp2_with fail
  refine wp_loop_once ?_
  go_wp2_with fail
  go_ret
  exact ⟨rfl, rfl⟩

theorem count122_cons (b o g c : Nat) (l F : List Nat) (w : World) (hv : w.cell? ⟨b, o + 1, none⟩ = some (.slice (some ⟨g, 0, none⟩) l.length c)) (hg : w.heap[g]? = some (rowObj F)) (ht : F.take l.length = l)
    (hlen : l.length ≤ 1000) (hs : l.sum < 4611686018427387904) :
    Calls Tryz.prog 122 #[.pointer (some ⟨b, o, none⟩)] w fun e w' => e = .returned (U l.sum) ∧ w = w' := by
  have HX := Lib.hid (fun m hm => (rowU hg ht m hm).1)
  have HS := Lib.hid hs
  clear hg ht hs
  go_enter Tryz.func122, Tryz.ntmps122
  go_wp2_with fail
  go_loop [3, 10] (fun c i => ∃ m : Nat, m ≤ l.length ∧ c = .int .u64 (((l.take m).sum : Nat) : Int) ∧ i = .int .i64 (m : Int)) (fun _ i => l.length - (intOf i).toNat)
  case atStart => exact ⟨0, by omega, rfl, rfl⟩
  case round =>
    obtain ⟨m, hm, rfl, rfl⟩ := hrel
    by_cases hlt : m < l.length
    · obtain ⟨x, hx0⟩ : ∃ x, x = l.getD m 0 := ⟨_, rfl⟩
      obtain ⟨S, hS⟩ : ∃ S, S = (l.take m).sum := ⟨_, rfl⟩
      have hx := HX.out m hlt
      have HR := take_succ_sum l m hlt
      have hb : (l.take (m + 1)).sum ≤ l.sum := by have := take_sum_le l (m + 1) l.length (by omega); rwa [List.take_length] at this
      rw [← hx0, ← hS] at HR
      rw [← hx0] at hx
      have w2 : IntKind.u64.wrap ((S : Int) + (x : Int)) = ((S + x : Nat) : Int) := by
        rw [IntKind.wrap_u64]; have := HS.out; omega
      rw [← hS]
      have HRR := Lib.hid HR
      clear HR hb hx0 hS
      have w7 : (m : Int) < (l.length : Int) := by omega
      have w1 : IntKind.i64.wrap ((m : Int) + 1) = (m : Int) + 1 := IntWalk.i64_in _ (by omega)
      go_wp2_with fail
      refine (load80 _ _ _ hx).mono ?_; rintro e w' ⟨rfl, rfl⟩
      go_wp2_with fail
      go_round
      case rel => exact ⟨m + 1, by omega, by rw [HRR.out]; go_num, by go_num⟩
      case measure => simp [intOf]; omega
    · have w7 : ¬ (m : Int) < (l.length : Int) := by omega
      have hml : m = l.length := by omega
      subst hml
      rw [List.take_length]
      go_wp2_with fail
      go_ret
      exact ⟨rfl, rfl⟩
end Go.Proofs.YtlpddogcnpokfaaGreat
namespace Go.Proofs.YtlpddogcnpokfaaGreat
open Go.RowKit

theorem count122 (b o : Nat) (st : Int) (l : List Nat) (og : Option Nat) (w : World) (h : SideAt w b o st l og) (hlen : l.length ≤ 1000) (hs : l.sum < 4611686018427387904) :
    Calls Tryz.prog 122 #[.pointer (some ⟨b, o, none⟩)] w fun e w' => e = .returned (U l.sum) ∧ w = w' := by
  obtain ⟨_, hr⟩ := h
  rcases hr with ⟨hv, rfl, rfl⟩ | ⟨g, F, hv, rfl, hne, hg, hgb, hlF, hF, ht⟩
  · exact count122_nil b o w hv
  · exact count122_cons b o g _ l F w hv hg ht hlen hs

set_option maxRecDepth 100000 in
theorem count98 (d : Nat) (s : Bk) (og oh : Option Nat) (w : World) (h : BkAt w d s og oh) (h1 : s.pl.length ≤ 1000) (h2 : s.nl.length ≤ 1000) (hs : s.pl.sum + s.nl.sum + s.zc < 4611686018427387904) :
    Calls Tryz.prog 98 #[.pointer (some ⟨d, 0, none⟩)] w fun e w' => e = .returned (U (s.pl.sum + s.nl.sum + s.zc)) ∧ Dr w w' := by
  generalize hA : s.pl.sum = A at *
  generalize hB : s.nl.sum = B at *
  generalize hC : s.zc = C at *
  have k0 : ∀ n, BkAt (w.drewN n) d s og oh := fun n => h.but (PtBut.ofDr (I := []) ⟨n, rfl⟩) (by simp)
  have k1 : ∀ n, Calls Tryz.prog 122 #[.pointer (some ⟨d, 11, none⟩)] (w.drewN n) fun e w' => e = .returned (.int .u64 (A : Int)) ∧ w.drewN n = w' := fun n => by rw [← hA]; exact count122 d 11 s.ps s.pl og (w.drewN n) (k0 n).P h1 (by omega)
  have k2 : ∀ n, Calls Tryz.prog 122 #[.pointer (some ⟨d, 13, none⟩)] (w.drewN n) fun e w' => e = .returned (.int .u64 (B : Int)) ∧ w.drewN n = w' := fun n => by rw [← hB]; exact count122 d 13 s.ns s.nl oh (w.drewN n) (k0 n).N h2 (by omega)
  have k3 := fun n => load80 ⟨d, 15, none⟩ (C : Int) (w.drewN n) (by rw [← hC]; exact (k0 n).z)
  have K1 := Lib.hid k1
  have K2 := Lib.hid k2
  have K3 := Lib.hid k3
  have w1 : IntKind.u64.wrap ((A : Int) + (B : Int)) = (A : Int) + (B : Int) := by rw [IntKind.wrap_u64]; omega
  have w2 : IntKind.u64.wrap ((A : Int) + (B : Int) + (C : Int)) = (A : Int) + (B : Int) + (C : Int) := by rw [IntKind.wrap_u64]; omega
  have H := Lib.hid h
  clear h
  clear H hA hB hC h1 h2 hs k0 k1 k2 k3
  go_enter Tryz.func98, Tryz.ntmps98
  go_wp2_with fail
  refine wp_region_still_tail 14 (by kernel_rfl) (by kernel_rfl) ?_
  change wpStill _ _ (w.drewN _) (fun a' => wpList _ _ _ _ a' (w.drewN _)) _ _
  have q1 := (K1.out 1).mono (R' := fun e w' => e = .returned (.int .u64 (A : Int)) ∧ w' = w.drewN 1) fun _ _ ⟨x, y⟩ => ⟨x, y.symm⟩
  have q2 := (K2.out 1).mono (R' := fun e w' => e = .returned (.int .u64 (B : Int)) ∧ w' = w.drewN 1) fun _ _ ⟨x, y⟩ => ⟨x, y.symm⟩
  have q3 := (K3.out 1).mono (R' := fun e w' => e = .returned (.int .u64 (C : Int)) ∧ w' = w.drewN 1) fun _ _ ⟨x, y⟩ => ⟨x, y.symm⟩
  have Q1 := Lib.hid q1
  have Q2 := Lib.hid q2
  have Q3 := Lib.hid q3
  clear q1 q2 q3 K1 K2 K3
  have HD := Lib.hid (show Dr w (w.drewN 1) from ⟨1, rfl⟩)
  generalize w.drewN 1 = W at *
  simp only [List.take_succ_cons, List.take_zero, List.drop_succ_cons, List.drop_zero]
  repeat still_step
  still_call Q1.out
  repeat still_step
  still_call Q2.out
  repeat still_step
  still_call Q3.out
  repeat still_step
  refine wpStill_nil ?_
  go_wp2_with fail
  go_ret
  exact ⟨ret_int (by omega), HD.out⟩
end Go.Proofs.YtlpddogcnpokfaaGreat
