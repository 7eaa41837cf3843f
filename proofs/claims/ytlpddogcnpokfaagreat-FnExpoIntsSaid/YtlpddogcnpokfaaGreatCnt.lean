/- counts and sums the empty set of attributes: its hash sets without attributes a new point -/
import Derived.Test.YtlpddogcnpokfaaGreatPst
import Derived.StillTailTactics
import Derived.Handy
import Derived.Deep.RegionWith
namespace Go.Proofs.YtlpddogcnpokfaaGreat
open Go.RowKit

theorem load123 (a : Addr) (n : Int) (w : World) (hc : w.cell? a = some (.int .i64 n)) :
    Calls Tryz.prog 123 #[.pointer (some a)] w fun e w' => e = .returned (.int .i64 n) ∧ w = w' := by
  go_enter Tryz.func123, Tryz.ntmps123
  go_wp2
  go_ret
  exact ⟨rfl, rfl⟩

set_option maxRecDepth 100000 in
set_option maxHeartbeats 400000 in
/-- the sum: its two parts together -/
theorem sum99 (b o fb : Nat) (ni : Int) (w : World) (h0 : w.cell? ⟨b, o, none⟩ = some (U fb)) (h1 : w.cell? ⟨b, o + 1, none⟩ = some (.int .i64 ni)) (_hfb : fb < 18446744073709551616) :
    Calls Tryz.prog 99 #[.pointer (some ⟨b, o, none⟩)] w fun e w' => Dr w w' ∧ ∃ r, e = .returned (.float .f64 r) ∧ r < 18446744073709551616 ∧ ∀ r0, floatBits .add .f64 fb (floatOfInt .f64 ni) = some r0 → r = r0 := by
  obtain ⟨r, w2, hr2, hd2, hk3, hk4⟩ := add_any fb (floatOfInt .f64 ni) w
  have h0' : w.cell? ⟨b, o, none⟩ = some (.int .u64 (fb : Int)) := h0
  have m1 := mk32
  have m2 := as32i
  have m3 := as32f
  have HD2 := Lib.hid hd2
  have HK := Lib.hid (And.intro hk3 hk4)
  clear hd2 hk3 hk4 h0
  go_enter Tryz.func99, Tryz.ntmps99
  go_wp2_with fail
  refine (load80 _ _ _ h0').mono ?_; rintro e w' ⟨rfl, rfl⟩
  go_wp2_with fail
  refine (load123 _ _ _ h1).mono ?_; rintro e w' ⟨rfl, rfl⟩
  go_wp2_with fail
  go_ret
  exact ⟨HD2.out.dr, r, rfl, HK.out.2, HK.out.1⟩
end Go.Proofs.YtlpddogcnpokfaaGreat
namespace Go.Proofs.YtlpddogcnpokfaaGreat
open Go.RowKit

theorem rowU {w : World} {g : Nat} {F l : List Nat} (hg : w.heap[g]? = some (rowObj F)) (ht : F.take l.length = l) (m : Nat) (hm : m < l.length) : w.cell? ⟨g, m, none⟩ = some (U (l.getD m 0)) ∧ w.frozen? ⟨g, m, none⟩ = false := by
  have hF : F[m]? = some (l.getD m 0) := by
    have : (F.take l.length)[m]? = F[m]? := by rw [List.getElem?_take]; simp [hm]
    rw [← this, ht, List.getD_eq_getElem?_getD, List.getElem?_eq_getElem hm]; rfl
  constructor
  · unfold World.cell? rowObj at *
    simp [hg, hF]
  · unfold World.frozen? rowObj at *
    simp [hg]
theorem take_succ_sum (l : List Nat) (m : Nat) (h : m < l.length) : (l.take (m + 1)).sum = (l.take m).sum + l.getD m 0 := by
  rw [List.take_add_one, List.sum_append, List.getD_eq_getElem?_getD, List.getElem?_eq_getElem h]; simp

theorem count122_nil (b o : Nat) (w : World) (hv : w.cell? ⟨b, o + 1, none⟩ = some (.slice none 0 0)) :
    Calls Tryz.prog 122 #[.pointer (some ⟨b, o, none⟩)] w fun e w' => e = .returned (U 0) ∧ w = w' := by
  go_enter Tryz.func122, Tryz.ntmps122
  go_wp2_with fail
  refine wp_loop_once ?_
  go_wp2_with fail
  go_ret
  exact ⟨rfl, rfl⟩

theorem count122_cons (b o g c : Nat) (l F : List Nat) (w : World) (hv : w.cell? ⟨b, o + 1, none⟩ = some (.slice (some ⟨g, 0, none⟩) l.length c)) (hg : w.heap[g]? = some (rowObj F)) (ht : F.take l.length = l)
    (hlen : l.length ≤ 1000) (hs : l.sum < 4611686018427387904) :
    Calls Tryz.prog 122 #[.pointer (some ⟨b, o, none⟩)] w fun e w' => e = .returned (U l.sum) ∧ w = w' := by
  have HX := Lib.hid (fun m hm => (rowU hg ht m hm).1)
  have HS := Lib.hid hs
  clear hg ht hs
  go_enter Tryz.func122, Tryz.ntmps122
  go_wp2_with fail
  go_loop [3, 10] (fun c i => ∃ m : Nat, m ≤ l.length ∧ c = .int .u64 (((l.take m).sum : Nat) : Int) ∧ i = .int .i64 (m : Int)) (fun _ i => l.length - (intOf i).toNat)
  case atStart => exact ⟨0, by omega, rfl, rfl⟩
  case round =>
    obtain ⟨m, hm, rfl, rfl⟩ := hrel
    by_cases hlt : m < l.length
    · obtain ⟨x, hx0⟩ : ∃ x, x = l.getD m 0 := ⟨_, rfl⟩
      obtain ⟨S, hS⟩ : ∃ S, S = (l.take m).sum := ⟨_, rfl⟩
      have hx := HX.out m hlt
      have HR := take_succ_sum l m hlt
      have hb : (l.take (m + 1)).sum ≤ l.sum := by have := take_sum_le l (m + 1) l.length (by omega); rwa [List.take_length] at this
      rw [← hx0, ← hS] at HR
      rw [← hx0] at hx
      have w2 : IntKind.u64.wrap ((S : Int) + (x : Int)) = ((S + x : Nat) : Int) := by
        rw [IntKind.wrap_u64]; have := HS.out; omega
      rw [← hS]
      have HRR := Lib.hid HR
      clear HR hb hx0 hS
      have w7 : (m : Int) < (l.length : Int) := by omega
      have w1 : IntKind.i64.wrap ((m : Int) + 1) = (m : Int) + 1 := IntWalk.i64_in _ (by omega)
      go_wp2_with fail
      refine (load80 _ _ _ hx).mono ?_; rintro e w' ⟨rfl, rfl⟩
      go_wp2_with fail
      go_round
      case rel => exact ⟨m + 1, by omega, by rw [HRR.out]; go_num, by go_num⟩
      case measure => simp [intOf]; omega
    · have w7 : ¬ (m : Int) < (l.length : Int) := by omega
      have hml : m = l.length := by omega
      subst hml
      rw [List.take_length]
      go_wp2_with fail
      go_ret
      exact ⟨rfl, rfl⟩
end Go.Proofs.YtlpddogcnpokfaaGreat
namespace Go.Proofs.YtlpddogcnpokfaaGreat
open Go.RowKit

theorem count122 (b o : Nat) (st : Int) (l : List Nat) (og : Option Nat) (w : World) (h : SideAt w b o st l og) (hlen : l.length ≤ 1000) (hs : l.sum < 4611686018427387904) :
    Calls Tryz.prog 122 #[.pointer (some ⟨b, o, none⟩)] w fun e w' => e = .returned (U l.sum) ∧ w = w' := by
  obtain ⟨_, hr⟩ := h
  rcases hr with ⟨hv, rfl, rfl⟩ | ⟨g, F, hv, rfl, hne, hg, hgb, hlF, hF, ht⟩
  · exact count122_nil b o w hv
  · exact count122_cons b o g _ l F w hv hg ht hlen hs

set_option maxRecDepth 100000 in
theorem count98 (d : Nat) (s : Bk) (og oh : Option Nat) (w : World) (h : BkAt w d s og oh) (h1 : s.pl.length ≤ 1000) (h2 : s.nl.length ≤ 1000) (hs : s.pl.sum + s.nl.sum + s.zc < 4611686018427387904) :
    Calls Tryz.prog 98 #[.pointer (some ⟨d, 0, none⟩)] w fun e w' => e = .returned (U (s.pl.sum + s.nl.sum + s.zc)) ∧ Dr w w' := by
  generalize hA : s.pl.sum = A at *
  generalize hB : s.nl.sum = B at *
  generalize hC : s.zc = C at *
  have k0 : ∀ n, BkAt (w.drewN n) d s og oh := fun n => h.but (PtBut.ofDr (I := []) ⟨n, rfl⟩) (by simp)
  have k1 : ∀ n, Calls Tryz.prog 122 #[.pointer (some ⟨d, 11, none⟩)] (w.drewN n) fun e w' => e = .returned (.int .u64 (A : Int)) ∧ w.drewN n = w' := fun n => by rw [← hA]; exact count122 d 11 s.ps s.pl og (w.drewN n) (k0 n).P h1 (by omega)
  have k2 : ∀ n, Calls Tryz.prog 122 #[.pointer (some ⟨d, 13, none⟩)] (w.drewN n) fun e w' => e = .returned (.int .u64 (B : Int)) ∧ w.drewN n = w' := fun n => by rw [← hB]; exact count122 d 13 s.ns s.nl oh (w.drewN n) (k0 n).N h2 (by omega)
  have k3 := fun n => load80 ⟨d, 15, none⟩ (C : Int) (w.drewN n) (by rw [← hC]; exact (k0 n).z)
  have K1 := Lib.hid k1
  have K2 := Lib.hid k2
  have K3 := Lib.hid k3
  have w1 : IntKind.u64.wrap ((A : Int) + (B : Int)) = (A : Int) + (B : Int) := by rw [IntKind.wrap_u64]; omega
  have w2 : IntKind.u64.wrap ((A : Int) + (B : Int) + (C : Int)) = (A : Int) + (B : Int) + (C : Int) := by rw [IntKind.wrap_u64]; omega
  have H := Lib.hid h
  clear h
  clear H hA hB hC h1 h2 hs k0 k1 k2 k3
  go_enter Tryz.func98, Tryz.ntmps98
  go_wp2_with fail
  refine wp_region_still_tail 14 (by kernel_rfl) (by kernel_rfl) ?_
  change wpStill _ _ (w.drewN _) (fun a' => wpList _ _ _ _ a' (w.drewN _)) _ _
  have q1 := (K1.out 1).mono (R' := fun e w' => e = .returned (.int .u64 (A : Int)) ∧ w' = w.drewN 1) fun _ _ ⟨x, y⟩ => ⟨x, y.symm⟩
  have q2 := (K2.out 1).mono (R' := fun e w' => e = .returned (.int .u64 (B : Int)) ∧ w' = w.drewN 1) fun _ _ ⟨x, y⟩ => ⟨x, y.symm⟩
  have q3 := (K3.out 1).mono (R' := fun e w' => e = .returned (.int .u64 (C : Int)) ∧ w' = w.drewN 1) fun _ _ ⟨x, y⟩ => ⟨x, y.symm⟩
  have Q1 := Lib.hid q1
  have Q2 := Lib.hid q2
  have Q3 := Lib.hid q3
  clear q1 q2 q3 K1 K2 K3
  have HD := Lib.hid (show Dr w (w.drewN 1) from ⟨1, rfl⟩)
  generalize w.drewN 1 = W at *
  simp only [List.take_succ_cons, List.take_zero, List.drop_succ_cons, List.drop_zero]
  repeat still_step
  still_call Q1.out
  repeat still_step
  still_call Q2.out
  repeat still_step
  still_call Q3.out
  repeat still_step
  refine wpStill_nil ?_
  go_wp2_with fail
  go_ret
  exact ⟨ret_int (by omega), HD.out⟩
end Go.Proofs.YtlpddogcnpokfaaGreat
namespace Go.Proofs.YtlpddogcnpokfaaGreat
open Go.RowKit

theorem zzNew148 (w : World) : Calls Tryz.prog 148 #[] w fun e w' => e = .returned (.pointer (some ⟨w.heap.size, 0, none⟩)) ∧ w.alloc (.cells #[.slice none 0 0] 281) = w' := by
  go_enter Tryz.func148, Tryz.ntmps148
  go_wp2
  go_ret
  exact ⟨rfl, rfl⟩
theorem xxNew131 (w : World) : Calls Tryz.prog 131 #[] w fun e w' => ∃ a : Addr, e = .returned (.agg #[.pointer (some a)]) ∧ w'.cell? a = some (.slice none 0 0) ∧ w.heap.size ≤ a.block ∧ Kept [] w w' := by
  go_enter Tryz.func131, Tryz.ntmps131
  go_wp2_with fail
  refine (zzNew148 _).mono ?_; rintro e w' ⟨rfl, rfl⟩
  go_wp2_with fail
  go_returns
  refine ⟨⟨w.heap.size + 1, 0, none⟩, rfl, ?_, ?_, ((Kept.refl _ _).alloc _).alloc _⟩
  · go_simp
  · simp
theorem now64 (w : World) : Calls Tryz.prog 64 #[] w fun e w' => e = .returned (.agg #[.int .i64 0]) ∧ Kept [] w w' := by
  go_enter Tryz.func64, Tryz.ntmps64
  go_wp2
  go_returns
  exact ⟨rfl, (Kept.refl _ _).alloc _⟩
theorem sum151 (a : Addr) (w : World) (hc : w.cell? a = some (.slice none 0 0)) : Calls Tryz.prog 151 #[.pointer (some a)] w fun e w' => e = .returned (.int .u64 17241709254077376921) ∧ w = w' := by
  go_enter Tryz.func151, Tryz.ntmps151
  go_wp2_with fail
  refine wp_loop_once ?_
  go_wp2_with fail
  refine wp_loop_once ?_
  go_wp2_with fail
  go_ret
  exact ⟨rfl, rfl⟩

/-- the hash of the empty set -/
def H0 : Int := 17241709254077376921
theorem sum134 (a : Addr) (w : World) (hc : w.cell? a = some (.slice none 0 0)) (hl : a.block < w.heap.size) : Calls Tryz.prog 134 #[.agg #[.pointer (some a)]] w fun e w' => e = .returned (.int .u64 H0) ∧ Kept [] w w' := by
  go_enter Tryz.func134, Tryz.ntmps134
  go_wp2_with fail
  have hc' : (w.alloc (.cells #[.pointer (some a)] 252)).cell? a = some (.slice none 0 0) := by
    have hne : a.block ≠ w.heap.size := by omega
    go_simp
  refine (sum151 a _ hc').mono ?_; rintro e w' ⟨rfl, rfl⟩
  go_wp2_with fail
  go_returns
  exact ⟨rfl, (Kept.refl _ _).alloc _⟩
theorem cell_lt {w : World} {a : Addr} {v : Value} (h : w.cell? a = some v) : a.block < w.heap.size := by
  unfold World.cell? at h
  rcases Nat.lt_or_ge a.block w.heap.size with h1 | h1
  · exact h1
  · rw [Array.getElem?_eq_none h1] at h; cases h
theorem empty113 (w : World) : Calls Tryz.prog 113 #[] w fun e w' => e = .returned (.int .u64 H0) ∧ Kept [] w w' := by
  go_enter Tryz.func113, Tryz.ntmps113
  go_wp2_with fail
  refine (xxNew131 _).mono ?_; rintro e w1 ⟨a, rfl, hc, -, hk⟩
  go_wp2_with fail
  refine (sum134 a w1 hc (cell_lt hc)).mono ?_; rintro e w2 ⟨rfl, hk2⟩
  go_wp2_with fail
  go_returns
  exact ⟨rfl, hk.trans hk2⟩
theorem Kept.new {w w1 : World} {S : List Nat} {cs : Array Value} {t : TypeId} (hk : Kept S (w.alloc (.cells cs t)) w1) (hS : w.heap.size ∉ S) (i : Nat) :
    w1.cell? ⟨w.heap.size, i, none⟩ = cs[i]? ∧ w1.frozen? ⟨w.heap.size, i, none⟩ = false ∧ w.heap.size < w1.heap.size := by
  have hs : w.heap.size < (w.alloc (.cells cs t)).heap.size := by rw [alloc_size]; omega
  refine ⟨(hk.cell hs hS).trans ?_, (hk.frozen hs hS).trans ?_, Nat.lt_of_lt_of_le hs hk.size⟩
  · go_simp
  · go_simp
/-- what was kept from behind a new block -/
theorem Kept.past {S : List Nat} {w w1 : World} {O : Obj} (hk : Kept S (w.alloc O) w1) : Kept S w w1 := ((Kept.refl S w).alloc O).trans hk
theorem Kept.sub {S S' : List Nat} {w w1 : World} (hk : Kept S w w1) (h : ∀ i, i ∈ S → i ∈ S') : Kept S' w w1 := hk.mono fun k hm => .inl (h k hm)
/-- an empty set of attributes -/
def setV (g : Nat) : Value := .agg #[.int .u64 H0, .slice (some ⟨g, 0, none⟩) 0 0]
theorem empty86 (w : World) : Calls Tryz.prog 86 #[] w fun e w' => ∃ g, e = .returned (setV g) ∧ Kept [] w w' ∧ w.heap.size ≤ g ∧ g < w'.heap.size := by
  go_enter Tryz.func86, Tryz.ntmps86
  go_wp2_with fail
  refine (empty113 _).mono ?_; rintro e w1 ⟨rfl, hk⟩
  have d0 : w1.cell? ⟨w.heap.size, 0, none⟩ = some (.int .u64 0) := (hk.new (by simp) 0).1
  have g0 : w1.frozen? ⟨w.heap.size, 0, none⟩ = false := (hk.new (by simp) 0).2.1
  have d1 : w1.cell? ⟨w.heap.size, 1, none⟩ = some (.slice none 0 0) := (hk.new (by simp) 1).1
  have g1 : w1.frozen? ⟨w.heap.size, 1, none⟩ = false := (hk.new (by simp) 1).2.1
  have hs := (hk.new (by simp) 1).2.2
  have HK := Lib.hid hk.past
  clear hk
  have hne : w.heap.size ≠ w1.heap.size := by omega
  go_wp2_with fail
  have hfin := Lib.hid (((HK.out.setCell (p := ⟨w.heap.size, 0, none⟩) (.inr (Nat.le_refl _)) (.int .u64 H0)).setCell (p := ⟨w.heap.size, 1, none⟩) (.inr (Nat.le_refl _)) (.slice (some ⟨w1.heap.size, 0, none⟩) 0 0)).alloc (.cells #[] 197))
  have hsz := Lib.hid (show w1.heap.size < (((w1.setCell ⟨w.heap.size, 0, none⟩ (.int .u64 H0)).setCell ⟨w.heap.size, 1, none⟩ (.slice (some ⟨w1.heap.size, 0, none⟩) 0 0)).alloc (.cells #[] 197)).heap.size by simp)
  have r0 : (((w1.setCell ⟨w.heap.size, 0, none⟩ (.int .u64 H0)).setCell ⟨w.heap.size, 1, none⟩ (.slice (some ⟨w1.heap.size, 0, none⟩) 0 0)).alloc (.cells #[] 197)).cell? ⟨w.heap.size, 0, none⟩ = some (.int .u64 H0) := by go_simp
  have r1 : (((w1.setCell ⟨w.heap.size, 0, none⟩ (.int .u64 H0)).setCell ⟨w.heap.size, 1, none⟩ (.slice (some ⟨w1.heap.size, 0, none⟩) 0 0)).alloc (.cells #[] 197)).cell? ⟨w.heap.size, 1, none⟩ = some (.slice (some ⟨w1.heap.size, 0, none⟩) 0 0) := by go_simp
  generalize (((w1.setCell ⟨w.heap.size, 0, none⟩ (.int .u64 H0)).setCell ⟨w.heap.size, 1, none⟩ (.slice (some ⟨w1.heap.size, 0, none⟩) 0 0)).alloc (.cells #[] 197)) = W at *
  refine bodyPost_ret (by simp [results, Tryz.results86, go_sem, r0, r1]; rfl) rfl ?_
  exact ⟨w1.heap.size, rfl, hfin.out, by omega, hsz.out⟩
end Go.Proofs.YtlpddogcnpokfaaGreat
namespace Go.Proofs.YtlpddogcnpokfaaGreat
open Go.RowKit

/-- what a set's two cells hold behind its making -/
theorem set_new {w w1 : World} {a b : Value} {t : TypeId} (hk : Kept [] (w.alloc (.cells #[a, b] t)) w1) :
    w1.cell? ⟨w.heap.size, 0, none⟩ = some a ∧ w1.frozen? ⟨w.heap.size, 0, none⟩ = false ∧ w1.cell? ⟨w.heap.size, 1, none⟩ = some b ∧ w1.frozen? ⟨w.heap.size, 1, none⟩ = false ∧ w.heap.size < w1.heap.size :=
  ⟨(hk.new (by simp) 0).1, (hk.new (by simp) 0).2.1, (hk.new (by simp) 1).1, (hk.new (by simp) 1).2.1, (hk.new (by simp) 1).2.2⟩

theorem newf56 (w : World) : Calls Tryz.prog 56 #[.slice none 0 0, .nilFunc] w fun e w' => ∃ g, e = .returned (.tuple #[setV g, .slice none 0 0]) ∧ Kept [] w w' ∧ w.heap.size ≤ g ∧ g < w'.heap.size := by
  go_enter Tryz.func56, Tryz.ntmps56
  go_wp2_with fail
  refine (empty86 _).mono ?_; rintro e w1 ⟨g, rfl, hk, hg1, hg2⟩
  obtain ⟨d0, g0, d1, g1, hs⟩ := set_new hk
  have hg1' : w.heap.size ≤ g := by rw [alloc_size] at hg1; omega
  have HK := Lib.hid hk.past
  clear hk hg1
  unfold setV
  go_wp2_with fail
  have hfin := Lib.hid ((HK.out.setCell (p := ⟨w.heap.size, 0, none⟩) (.inr (Nat.le_refl _)) (.int .u64 H0)).setCell (p := ⟨w.heap.size, 1, none⟩) (.inr (Nat.le_refl _)) (.slice (some ⟨g, 0, none⟩) 0 0))
  have hsz := Lib.hid (show g < ((w1.setCell ⟨w.heap.size, 0, none⟩ (.int .u64 H0)).setCell ⟨w.heap.size, 1, none⟩ (.slice (some ⟨g, 0, none⟩) 0 0)).heap.size by simpa using hg2)
  have r0 : ((w1.setCell ⟨w.heap.size, 0, none⟩ (.int .u64 H0)).setCell ⟨w.heap.size, 1, none⟩ (.slice (some ⟨g, 0, none⟩) 0 0)).cell? ⟨w.heap.size, 0, none⟩ = some (.int .u64 H0) := by go_simp
  have r1 : ((w1.setCell ⟨w.heap.size, 0, none⟩ (.int .u64 H0)).setCell ⟨w.heap.size, 1, none⟩ (.slice (some ⟨g, 0, none⟩) 0 0)).cell? ⟨w.heap.size, 1, none⟩ = some (.slice (some ⟨g, 0, none⟩) 0 0) := by go_simp
  generalize ((w1.setCell ⟨w.heap.size, 0, none⟩ (.int .u64 H0)).setCell ⟨w.heap.size, 1, none⟩ (.slice (some ⟨g, 0, none⟩) 0 0)) = W at *
  (try simp only [Exit.inBlock, Exit.then])
  refine bodyPost_ret (by simp [results, Tryz.results56, go_sem, r0, r1]; rfl) rfl ?_
  exact ⟨g, rfl, hfin.out, hg1', hsz.out⟩
theorem newSet45 (w : World) : Calls Tryz.prog 45 #[.slice none 0 0] w fun e w' => ∃ g, e = .returned (setV g) ∧ Kept [] w w' ∧ w.heap.size ≤ g ∧ g < w'.heap.size := by
  go_enter Tryz.func45, Tryz.ntmps45
  go_wp2_with fail
  refine (newf56 _).mono ?_; rintro e w1 ⟨g, rfl, hk, hg1, hg2⟩
  obtain ⟨d0, g0, d1, g1, hs⟩ := set_new hk
  have hne : w.heap.size ≠ w1.heap.size := by omega
  have hg1' : w.heap.size ≤ g := by rw [alloc_size] at hg1; omega
  have HK := Lib.hid hk.past
  clear hk hg1
  unfold setV
  go_wp2_with fail
  have hfin := Lib.hid (((HK.out.setCell (p := ⟨w.heap.size, 0, none⟩) (.inr (Nat.le_refl _)) (.int .u64 H0)).setCell (p := ⟨w.heap.size, 1, none⟩) (.inr (Nat.le_refl _)) (.slice (some ⟨g, 0, none⟩) 0 0)).alloc (.cells #[.int .u64 H0, .slice (some ⟨g, 0, none⟩) 0 0] 99))
  have hsz := Lib.hid (show g < ((((w1.setCell ⟨w.heap.size, 0, none⟩ (.int .u64 H0)).setCell ⟨w.heap.size, 1, none⟩ (.slice (some ⟨g, 0, none⟩) 0 0)).alloc (.cells #[.int .u64 H0, .slice (some ⟨g, 0, none⟩) 0 0] 99))).heap.size by simp; omega)
  have r0 : ((((w1.setCell ⟨w.heap.size, 0, none⟩ (.int .u64 H0)).setCell ⟨w.heap.size, 1, none⟩ (.slice (some ⟨g, 0, none⟩) 0 0)).alloc (.cells #[.int .u64 H0, .slice (some ⟨g, 0, none⟩) 0 0] 99))).cell? ⟨w.heap.size, 0, none⟩ = some (.int .u64 H0) := by go_simp
  have r1 : ((((w1.setCell ⟨w.heap.size, 0, none⟩ (.int .u64 H0)).setCell ⟨w.heap.size, 1, none⟩ (.slice (some ⟨g, 0, none⟩) 0 0)).alloc (.cells #[.int .u64 H0, .slice (some ⟨g, 0, none⟩) 0 0] 99))).cell? ⟨w.heap.size, 1, none⟩ = some (.slice (some ⟨g, 0, none⟩) 0 0) := by go_simp
  generalize (((w1.setCell ⟨w.heap.size, 0, none⟩ (.int .u64 H0)).setCell ⟨w.heap.size, 1, none⟩ (.slice (some ⟨g, 0, none⟩) 0 0)).alloc (.cells #[.int .u64 H0, .slice (some ⟨g, 0, none⟩) 0 0] 99)) = W at *
  (try simp only [Exit.inBlock, Exit.then])
  refine bodyPost_ret (by simp [results, Tryz.results45, go_sem, r0, r1]; rfl) rfl ?_
  exact ⟨g, rfl, hfin.out, hg1', hsz.out⟩

/-- the mark of a set, in memory with its hash -/
def dist : Value := .agg #[.int .u64 H0]
theorem equiv75 (a : Addr) (w : World) (hc : w.cell? a = some (.int .u64 H0)) : Calls Tryz.prog 75 #[.pointer (some a)] w fun e w' => e = .returned dist ∧ w.alloc (.cells #[.int .u64 H0] 176) = w' := by
  have hl := cell_lt hc
  have hne : a.block ≠ w.heap.size := by omega
  unfold H0 at *
  go_enter Tryz.func75, Tryz.ntmps75
  go_wp2_with fail
  have r0 : (w.alloc (.cells #[.int .u64 17241709254077376921] 176)).cell? ⟨w.heap.size, 0, none⟩ = some (.int .u64 17241709254077376921) := by go_simp
  generalize hW : w.alloc (.cells #[.int .u64 17241709254077376921] 176) = W at *
  (try simp only [Exit.inBlock, Exit.then])
  refine bodyPost_ret (by simp [results, Tryz.results75, go_sem, r0]; rfl) rfl ?_
  exact ⟨rfl, rfl⟩

/-- attributes without a filter -/
def lazyV (g : Nat) : Value := .agg #[.int .u64 H0, .slice (some ⟨g, 0, none⟩) 0 0, .int .u64 H0, .int .u64 0, .slice none 0 0, .bool false]
theorem equiv75L (s g : Nat) (w : World) (hs : s + 1 < w.heap.size) (h : w.cell? ⟨s, 0, none⟩ = some (.int .u64 H0) ∧ w.cell? ⟨s, 1, none⟩ = some (.slice (some ⟨g, 0, none⟩) 0 0) ∧ w.cell? ⟨s + 1, 0, none⟩ = some (.int .u64 0) ∧ w.cell? ⟨s + 1, 1, none⟩ = some (.slice none 0 0) ∧ w.cell? ⟨s + 1, 2, none⟩ = some (.int .u64 0) ∧ w.cell? ⟨s + 1, 3, none⟩ = some (.int .u64 0) ∧ w.cell? ⟨s + 1, 4, none⟩ = some (.slice none 0 0) ∧ w.cell? ⟨s + 1, 5, none⟩ = some (.bool false) ∧ w.frozen? ⟨s + 1, 0, none⟩ = false ∧ w.frozen? ⟨s + 1, 1, none⟩ = false ∧ w.frozen? ⟨s + 1, 2, none⟩ = false ∧ w.frozen? ⟨s + 1, 3, none⟩ = false ∧ w.frozen? ⟨s + 1, 4, none⟩ = false ∧ w.frozen? ⟨s + 1, 5, none⟩ = false) :
    Calls Tryz.prog 75 #[.pointer (some ⟨s, 0, none⟩)] w fun e w' => e = .returned (.agg #[.int .u64 H0]) ∧ (w'.cell? ⟨s, 0, none⟩ = some (.int .u64 H0) ∧ w'.cell? ⟨s, 1, none⟩ = some (.slice (some ⟨g, 0, none⟩) 0 0) ∧ w'.cell? ⟨s + 1, 0, none⟩ = some (.int .u64 0) ∧ w'.cell? ⟨s + 1, 1, none⟩ = some (.slice none 0 0) ∧ w'.cell? ⟨s + 1, 2, none⟩ = some (.int .u64 0) ∧ w'.cell? ⟨s + 1, 3, none⟩ = some (.int .u64 0) ∧ w'.cell? ⟨s + 1, 4, none⟩ = some (.slice none 0 0) ∧ w'.cell? ⟨s + 1, 5, none⟩ = some (.bool false) ∧ w'.frozen? ⟨s + 1, 0, none⟩ = false ∧ w'.frozen? ⟨s + 1, 1, none⟩ = false ∧ w'.frozen? ⟨s + 1, 2, none⟩ = false ∧ w'.frozen? ⟨s + 1, 3, none⟩ = false ∧ w'.frozen? ⟨s + 1, 4, none⟩ = false ∧ w'.frozen? ⟨s + 1, 5, none⟩ = false) ∧ Hid (Kept [] w w') := by
  obtain ⟨l0, l1, k0, k1, k2, k3, k4, k5, f0, f1, f2, f3, f4, f5⟩ := h
  refine (equiv75 _ _ l0).mono ?_
  rintro e w' ⟨rfl, rfl⟩
  have n0 : s < w.heap.size := by omega
  have n1 : s ≠ w.heap.size := by omega
  have n2 : s + 1 ≠ w.heap.size := by omega
  refine ⟨rfl, ?_, Lib.hid ((Kept.refl _ _).alloc _)⟩
  refine ⟨?_, ?_, ?_, ?_, ?_, ?_, ?_, ?_, ?_, ?_, ?_, ?_, ?_, ?_⟩ <;> go_simp
set_option maxRecDepth 100000 in
theorem lazy66 (g : Nat) (w : World) : Calls Tryz.prog 66 #[setV g, .nilFunc] w fun e w' => e = .returned (lazyV g) ∧ Kept [] w w' := by
  have hnf : ∀ w, (binOp .eql 85 .nilFunc .nilFunc).run Tryz.prog w = .ok (.bool true) w := fun _ => by kernel_rfl
  obtain ⟨W, hW⟩ : ∃ W, W = ((w.alloc (.cells #[.int .u64 H0, .slice (some ⟨g, 0, none⟩) 0 0] 99)).alloc (.cells #[.int .u64 0, .slice none 0 0, .int .u64 0, .int .u64 0, .slice none 0 0, .bool false] 178)) := ⟨_, rfl⟩
  have hc : W.drew.cell? ⟨w.heap.size, 0, none⟩ = some (.int .u64 H0) ∧ W.drew.cell? ⟨w.heap.size, 1, none⟩ = some (.slice (some ⟨g, 0, none⟩) 0 0) ∧ W.drew.cell? ⟨w.heap.size + 1, 0, none⟩ = some (.int .u64 0) ∧ W.drew.cell? ⟨w.heap.size + 1, 1, none⟩ = some (.slice none 0 0) ∧ W.drew.cell? ⟨w.heap.size + 1, 2, none⟩ = some (.int .u64 0) ∧ W.drew.cell? ⟨w.heap.size + 1, 3, none⟩ = some (.int .u64 0) ∧ W.drew.cell? ⟨w.heap.size + 1, 4, none⟩ = some (.slice none 0 0) ∧ W.drew.cell? ⟨w.heap.size + 1, 5, none⟩ = some (.bool false) ∧ W.drew.frozen? ⟨w.heap.size + 1, 0, none⟩ = false ∧ W.drew.frozen? ⟨w.heap.size + 1, 1, none⟩ = false ∧ W.drew.frozen? ⟨w.heap.size + 1, 2, none⟩ = false ∧ W.drew.frozen? ⟨w.heap.size + 1, 3, none⟩ = false ∧ W.drew.frozen? ⟨w.heap.size + 1, 4, none⟩ = false ∧ W.drew.frozen? ⟨w.heap.size + 1, 5, none⟩ = false := by
    subst hW
    refine ⟨?_, ?_, ?_, ?_, ?_, ?_, ?_, ?_, ?_, ?_, ?_, ?_, ?_, ?_⟩ <;> go_simp
  have HK := Lib.hid (show Kept [] w W.drew by subst hW; exact (((Kept.refl _ _).alloc _).alloc _).dr ⟨1, rfl⟩)
  have hsz := Lib.hid (show w.heap.size + 1 < W.drew.heap.size by subst hW; show _ < ((w.alloc _).alloc _).heap.size; simp)
  obtain ⟨l0, l1, k0, k1, k2, k3, k4, k5, f0, f1, f2, f3, f4, f5⟩ := hc
  unfold setV
  go_enter Tryz.func66, Tryz.ntmps66
  go_wp2_with fail
  rw [← hW]
  clear hW
  go_region_with (go_at_call 75; refine (equiv75L _ g _ hsz.out ⟨l0, l1, k0, k1, k2, k3, k4, k5, f0, f1, f2, f3, f4, f5⟩).mono ?_; rintro e w' ⟨rfl, ⟨l0, l1, k0, k1, k2, k3, k4, k5, f0, f1, f2, f3, f4, f5⟩, hk⟩)
  all_goals
    have hfin := Lib.hid (((((((HK.out.trans hk.out).setCell (p := ⟨w.heap.size + 1, 0, none⟩) (.inr (Nat.le_succ _)) (.int .u64 H0)).setCell (p := ⟨w.heap.size + 1, 1, none⟩) (.inr (Nat.le_succ _)) (.slice (some ⟨g, 0, none⟩) 0 0)).setCell (p := ⟨w.heap.size + 1, 2, none⟩) (.inr (Nat.le_succ _)) (.int .u64 H0)).setCell (p := ⟨w.heap.size + 1, 3, none⟩) (.inr (Nat.le_succ _)) (.int .u64 0)).setCell (p := ⟨w.heap.size + 1, 4, none⟩) (.inr (Nat.le_succ _)) (.slice none 0 0)).setCell (p := ⟨w.heap.size + 1, 5, none⟩) (.inr (Nat.le_succ _)) (.bool false))
    have r0 : ((((((w'.setCell ⟨w.heap.size + 1, 0, none⟩ (.int .u64 H0)).setCell ⟨w.heap.size + 1, 1, none⟩ (.slice (some ⟨g, 0, none⟩) 0 0)).setCell ⟨w.heap.size + 1, 2, none⟩ (.int .u64 H0)).setCell ⟨w.heap.size + 1, 3, none⟩ (.int .u64 0)).setCell ⟨w.heap.size + 1, 4, none⟩ (.slice none 0 0)).setCell ⟨w.heap.size + 1, 5, none⟩ (.bool false)).cell? ⟨w.heap.size + 1, 0, none⟩ = some (.int .u64 H0) := by go_simp
    have r1 : ((((((w'.setCell ⟨w.heap.size + 1, 0, none⟩ (.int .u64 H0)).setCell ⟨w.heap.size + 1, 1, none⟩ (.slice (some ⟨g, 0, none⟩) 0 0)).setCell ⟨w.heap.size + 1, 2, none⟩ (.int .u64 H0)).setCell ⟨w.heap.size + 1, 3, none⟩ (.int .u64 0)).setCell ⟨w.heap.size + 1, 4, none⟩ (.slice none 0 0)).setCell ⟨w.heap.size + 1, 5, none⟩ (.bool false)).cell? ⟨w.heap.size + 1, 1, none⟩ = some (.slice (some ⟨g, 0, none⟩) 0 0) := by go_simp
    have r2 : ((((((w'.setCell ⟨w.heap.size + 1, 0, none⟩ (.int .u64 H0)).setCell ⟨w.heap.size + 1, 1, none⟩ (.slice (some ⟨g, 0, none⟩) 0 0)).setCell ⟨w.heap.size + 1, 2, none⟩ (.int .u64 H0)).setCell ⟨w.heap.size + 1, 3, none⟩ (.int .u64 0)).setCell ⟨w.heap.size + 1, 4, none⟩ (.slice none 0 0)).setCell ⟨w.heap.size + 1, 5, none⟩ (.bool false)).cell? ⟨w.heap.size + 1, 2, none⟩ = some (.int .u64 H0) := by go_simp
    have r3 : ((((((w'.setCell ⟨w.heap.size + 1, 0, none⟩ (.int .u64 H0)).setCell ⟨w.heap.size + 1, 1, none⟩ (.slice (some ⟨g, 0, none⟩) 0 0)).setCell ⟨w.heap.size + 1, 2, none⟩ (.int .u64 H0)).setCell ⟨w.heap.size + 1, 3, none⟩ (.int .u64 0)).setCell ⟨w.heap.size + 1, 4, none⟩ (.slice none 0 0)).setCell ⟨w.heap.size + 1, 5, none⟩ (.bool false)).cell? ⟨w.heap.size + 1, 3, none⟩ = some (.int .u64 0) := by go_simp
    have r4 : ((((((w'.setCell ⟨w.heap.size + 1, 0, none⟩ (.int .u64 H0)).setCell ⟨w.heap.size + 1, 1, none⟩ (.slice (some ⟨g, 0, none⟩) 0 0)).setCell ⟨w.heap.size + 1, 2, none⟩ (.int .u64 H0)).setCell ⟨w.heap.size + 1, 3, none⟩ (.int .u64 0)).setCell ⟨w.heap.size + 1, 4, none⟩ (.slice none 0 0)).setCell ⟨w.heap.size + 1, 5, none⟩ (.bool false)).cell? ⟨w.heap.size + 1, 4, none⟩ = some (.slice none 0 0) := by go_simp
    have r5 : ((((((w'.setCell ⟨w.heap.size + 1, 0, none⟩ (.int .u64 H0)).setCell ⟨w.heap.size + 1, 1, none⟩ (.slice (some ⟨g, 0, none⟩) 0 0)).setCell ⟨w.heap.size + 1, 2, none⟩ (.int .u64 H0)).setCell ⟨w.heap.size + 1, 3, none⟩ (.int .u64 0)).setCell ⟨w.heap.size + 1, 4, none⟩ (.slice none 0 0)).setCell ⟨w.heap.size + 1, 5, none⟩ (.bool false)).cell? ⟨w.heap.size + 1, 5, none⟩ = some (.bool false) := by go_simp
    generalize ((((((w'.setCell ⟨w.heap.size + 1, 0, none⟩ (.int .u64 H0)).setCell ⟨w.heap.size + 1, 1, none⟩ (.slice (some ⟨g, 0, none⟩) 0 0)).setCell ⟨w.heap.size + 1, 2, none⟩ (.int .u64 H0)).setCell ⟨w.heap.size + 1, 3, none⟩ (.int .u64 0)).setCell ⟨w.heap.size + 1, 4, none⟩ (.slice none 0 0)).setCell ⟨w.heap.size + 1, 5, none⟩ (.bool false)) = X at *
    go_wp2_with fail
    (try simp only [Exit.inBlock, Exit.then])
    refine bodyPost_ret (by simp [results, Tryz.results66, go_sem, r0, r1, r2, r3, r4, r5]; rfl) rfl ?_
    exact ⟨rfl, hfin.out⟩
end Go.Proofs.YtlpddogcnpokfaaGreat
namespace Go.Proofs.YtlpddogcnpokfaaGreat
open Go.RowKit
theorem dist70 (g : Nat) (w : World) : Calls Tryz.prog 70 #[lazyV g] w fun e w' => e = .returned (.agg #[.int .u64 H0]) ∧ Kept [] w w' := by
  unfold lazyV
  go_enter Tryz.func70, Tryz.ntmps70
  go_wp2_with fail
  have hfin := Lib.hid (((Kept.refl [] w).alloc (.cells #[.int .u64 H0, .slice (some ⟨g, 0, none⟩) 0 0, .int .u64 H0, .int .u64 0, .slice none 0 0, .bool false] 178)).alloc (.cells #[.int .u64 H0] 176))
  have r0 : ((w.alloc (.cells #[.int .u64 H0, .slice (some ⟨g, 0, none⟩) 0 0, .int .u64 H0, .int .u64 0, .slice none 0 0, .bool false] 178)).alloc (.cells #[.int .u64 H0] 176)).cell? ⟨w.heap.size + 1, 0, none⟩ = some (.int .u64 H0) := by go_simp
  generalize ((w.alloc (.cells #[.int .u64 H0, .slice (some ⟨g, 0, none⟩) 0 0, .int .u64 H0, .int .u64 0, .slice none 0 0, .bool false] 178)).alloc (.cells #[.int .u64 H0] 176)) = X at *
  (try simp only [Exit.inBlock, Exit.then])
  refine bodyPost_ret (by simp [results, Tryz.results70, go_sem, r0]; rfl) rfl ?_
  exact ⟨rfl, hfin.out⟩
set_option maxRecDepth 100000 in
theorem set73 (g : Nat) (w : World) : Calls Tryz.prog 73 #[lazyV g] w fun e w' => e = .returned (setV g) ∧ Kept [] w w' := by
  unfold lazyV
  go_enter Tryz.func73, Tryz.ntmps73
  go_wp2_with fail
  have hfin := Lib.hid (((Kept.refl [] w).alloc (.cells #[.int .u64 H0, .slice (some ⟨g, 0, none⟩) 0 0, .int .u64 H0, .int .u64 0, .slice none 0 0, .bool false] 178)).alloc (.cells #[.int .u64 H0, .slice (some ⟨g, 0, none⟩) 0 0] 99))
  have r0 : ((w.alloc (.cells #[.int .u64 H0, .slice (some ⟨g, 0, none⟩) 0 0, .int .u64 H0, .int .u64 0, .slice none 0 0, .bool false] 178)).alloc (.cells #[.int .u64 H0, .slice (some ⟨g, 0, none⟩) 0 0] 99)).cell? ⟨w.heap.size + 1, 0, none⟩ = some (.int .u64 H0) := by go_simp
  have r1 : ((w.alloc (.cells #[.int .u64 H0, .slice (some ⟨g, 0, none⟩) 0 0, .int .u64 H0, .int .u64 0, .slice none 0 0, .bool false] 178)).alloc (.cells #[.int .u64 H0, .slice (some ⟨g, 0, none⟩) 0 0] 99)).cell? ⟨w.heap.size + 1, 1, none⟩ = some (.slice (some ⟨g, 0, none⟩) 0 0) := by go_simp
  generalize ((w.alloc (.cells #[.int .u64 H0, .slice (some ⟨g, 0, none⟩) 0 0, .int .u64 H0, .int .u64 0, .slice none 0 0, .bool false] 178)).alloc (.cells #[.int .u64 H0, .slice (some ⟨g, 0, none⟩) 0 0] 99)) = X at *
  (try simp only [Exit.inBlock, Exit.then])
  refine bodyPost_ret (by simp [results, Tryz.results73, go_sem, r0, r1]; rfl) rfl ?_
  exact ⟨rfl, hfin.out⟩
theorem store112 (a : Addr) (v0 : Value) (n : Int) (w : World) (hc : w.cell? a = some v0) (hf : w.frozen? a = false) :
    Calls Tryz.prog 112 #[.pointer (some a), .int .i32 n] w fun e w' => e = .returned (.tuple #[]) ∧ w.setCell a (.int .i32 n) = w' := by
  go_enter Tryz.func112, Tryz.ntmps112
  go_wp2
  go_end0
  exact ⟨rfl, rfl⟩

theorem now64L (s g : Nat) (w : World) (h : w.cell? ⟨s, 0, none⟩ = some (.int .u64 H0) ∧ w.cell? ⟨s, 1, none⟩ = some (.slice (some ⟨g, 0, none⟩) 0 0)) :
    Calls Tryz.prog 64 #[] w fun e w' => e = .returned (.agg #[.int .i64 0]) ∧ (w'.cell? ⟨s, 0, none⟩ = some (.int .u64 H0) ∧ w'.cell? ⟨s, 1, none⟩ = some (.slice (some ⟨g, 0, none⟩) 0 0)) ∧ Hid (Kept [] w w') := by
  refine (now64 w).mono ?_
  rintro e w' ⟨rfl, hk⟩
  exact ⟨rfl, ⟨(hk.cell (cell_lt h.1) (by simp)).trans h.1, (hk.cell (cell_lt h.2) (by simp)).trans h.2⟩, Lib.hid hk⟩
/-- a new point -/
def dpCells (g : Nat) (ms S : Int) : Array Value := #[.int .u64 H0, .slice (some ⟨g, 0, none⟩) 0 0, .int .u64 0, .int .u64 0, .bool false, .int .u64 0, .int .i64 0, .int .i64 ms, .bool false, .bool false, .int .i32 S, .int .i32 0, .slice none 0 0, .int .i32 0, .slice none 0 0, .int .u64 0, .int .i64 0]
set_option maxRecDepth 100000 in
theorem newDp95 (g : Nat) (ms S : Int) (w : World) : Calls Tryz.prog 95 #[setV g, .int .i64 ms, .int .i32 S, .bool false, .bool false] w fun e w' =>
    ∃ d, e = .returned (.pointer (some ⟨d, 0, none⟩)) ∧ w.heap.size ≤ d ∧ Kept [] w w' ∧ w'.heap[d]? = some (.cells (dpCells g ms S) 209 (0, 0)) := by
  obtain ⟨W, hW⟩ : ∃ W, W = w.alloc (.cells #[.int .u64 H0, .slice (some ⟨g, 0, none⟩) 0 0] 99) := ⟨_, rfl⟩
  have hc : W.drew.cell? ⟨w.heap.size, 0, none⟩ = some (.int .u64 H0) ∧ W.drew.cell? ⟨w.heap.size, 1, none⟩ = some (.slice (some ⟨g, 0, none⟩) 0 0) := by
    subst hW
    refine ⟨?_, ?_⟩ <;> go_simp
  have HK := Lib.hid (show Kept [] w W.drew by subst hW; exact ((Kept.refl _ _).alloc _).dr ⟨1, rfl⟩)
  obtain ⟨l0, l1⟩ := hc
  unfold setV
  go_enter Tryz.func95, Tryz.ntmps95
  go_wp2_with fail
  rw [← hW]
  clear hW
  go_region_with (go_at_call 64; refine (now64L w.heap.size g _ ⟨l0, l1⟩).mono ?_; rintro e w' ⟨rfl, ⟨l0, l1⟩, hk⟩)
  all_goals
    have hs : w.heap.size ≤ w'.heap.size := (HK.out.trans hk.out).size
    have hfin := Lib.hid ((HK.out.trans hk.out).alloc (.cells (dpCells g ms S) 209))
    have hheap := Lib.hid (show (w'.alloc (.cells (dpCells g ms S) 209)).heap[w'.heap.size]? = some (.cells (dpCells g ms S) 209 (0, 0)) by
      unfold World.alloc; simp)
    have c10 : (w'.alloc (.cells (dpCells g ms 0) 209)).cell? ⟨w'.heap.size, 10, none⟩ = some (.int .i32 0) := by unfold dpCells; go_simp
    have f10 : (w'.alloc (.cells (dpCells g ms 0) 209)).frozen? ⟨w'.heap.size, 10, none⟩ = false := by unfold dpCells; go_simp
    unfold dpCells at hfin hheap c10 f10
    go_wp2_with fail
    refine (store112 _ _ _ _ c10 f10).mono ?_; rintro e w5 ⟨rfl, rfl⟩
    go_wp2_with fail
    go_ret
    exact ⟨w'.heap.size, rfl, hs, hfin.out, hheap.out⟩
end Go.Proofs.YtlpddogcnpokfaaGreat
