/- A side at a lesser scale (downscale), as one contract. -/
import Derived.Test.YtlpddogcnpokfaaGreatRec
import Derived.StillTailTactics
namespace Go.Proofs.YtlpddogcnpokfaaGreat
open Go.RowKit

/-- the counts of the first 'i' places that fall together in place 'j' -/
def grp (F : List Nat) (steps off : Nat) : Nat → Nat → Nat
  | 0, _ => 0
  | i + 1, j => grp F steps off i j + if (i + off) / steps = j then F.getD i 0 else 0

def dsL (l : List Nat) (steps off : Nat) : List Nat := (List.range ((l.length - 1 + off) / steps + 1)).map (grp l steps off l.length)

theorem grp_zero (F : List Nat) (steps off i j : Nat) (h : ∀ k, k < i → (k + off) / steps ≠ j) : grp F steps off i j = 0 := by
  induction i with
  | zero => rfl
  | succ i ih =>
    simp only [grp]
    rw [ih fun k hk => h k (by omega), if_neg (h i (by omega))]
theorem grp_le (F : List Nat) (steps off : Nat) : ∀ i j, i ≤ F.length → grp F steps off i j ≤ (F.take i).sum := by
  intro i
  induction i with
  | zero => intro j _; simp [grp]
  | succ i ih =>
    intro j h
    simp only [grp]
    have := ih j (by omega)
    rw [List.take_succ_eq_append_getElem (by omega), List.sum_append]
    have e : F.getD i 0 = F[i] := by simp [List.getD_eq_getElem?_getD, List.getElem?_eq_getElem (by omega : i < F.length)]
    split
    · rw [e]; simp; omega
    · simp; omega

def DsRel (F : List Nat) (steps off i : Nat) (G : List Nat) : Prop :=
  G.length = F.length ∧ (∀ j, j ≤ (i - 1 + off) / steps → G[j]? = some (grp F steps off i j)) ∧ ∀ p, i ≤ p → G[p]? = F[p]?

theorem DsRel.start (F : List Nat) (steps off : Nat) (ho : off < steps) (h0 : 0 < F.length) : DsRel F steps off 1 F := by
  refine ⟨rfl, fun j hj => ?_, fun _ _ => rfl⟩
  have e0 : (1 - 1 + off) / steps = 0 := Nat.div_eq_of_lt (by omega)
  have e1 : (0 + off) / steps = 0 := Nat.div_eq_of_lt (by omega)
  have : j = 0 := by omega
  subst this
  simp only [grp]
  rw [if_pos e1, List.getElem?_eq_getElem h0]
  simp [List.getD_eq_getElem?_getD, List.getElem?_eq_getElem h0]

theorem q_le (steps off i : Nat) (ho : off < steps) (hs : 2 ≤ steps) (hi : 1 ≤ i) : (i + off) / steps ≤ i := by
  have : (i + off) / steps < i + 1 := by
    rw [Nat.div_lt_iff_lt_mul (by omega)]
    have := Nat.mul_le_mul_left i hs
    rw [Nat.add_mul]; omega
  omega
theorem q_step (steps off i : Nat) (hi : 1 ≤ i) :
    ((i + off) % steps = 0 → (i + off) / steps = (i - 1 + off) / steps + 1) ∧ (¬ (i + off) % steps = 0 → (i + off) / steps = (i - 1 + off) / steps) := by
  obtain ⟨x, hx⟩ : ∃ x, i + off = x + 1 := ⟨i + off - 1, by omega⟩
  have : i - 1 + off = x := by omega
  rw [hx, this, Nat.succ_div]
  constructor
  · intro h; rw [if_pos (Nat.dvd_of_mod_eq_zero h)]
  · intro h; rw [if_neg fun hd => h (Nat.mod_eq_zero_of_dvd hd)]; rfl

theorem DsRel.step {F G : List Nat} {steps off i : Nat} (h : DsRel F steps off i G) (ho : off < steps) (hs : 2 ≤ steps) (hi : 1 ≤ i) (hl : i < F.length) :
    ∃ x y, G[i]? = some x ∧ F[i]? = some x ∧ G[(i + off) / steps]? = some y ∧
      ((i + off) % steps = 0 → DsRel F steps off (i + 1) (G.set ((i + off) / steps) x)) ∧
      (¬ (i + off) % steps = 0 → y + x = grp F steps off (i + 1) ((i + off) / steps) ∧ DsRel F steps off (i + 1) (G.set ((i + off) / steps) (y + x))) := by
  obtain ⟨h1, h2, h3⟩ := h
  have hq := q_le steps off i ho hs hi
  have hqs := q_step steps off i hi
  have hx : F[i]? = some F[i] := List.getElem?_eq_getElem hl
  have hgd : F.getD i 0 = F[i] := by simp [List.getD_eq_getElem?_getD, hx]
  obtain ⟨y, hy⟩ : ∃ y, G[(i + off) / steps]? = some y := ⟨_, List.getElem?_eq_getElem (by omega)⟩
  have i1 : i + 1 - 1 + off = i + off := by omega
  refine ⟨F[i], y, by rw [h3 i (Nat.le_refl _)]; exact hx, hx, hy, fun hm => ?_, fun hm => ?_⟩
  · have e := hqs.1 hm
    refine ⟨by simpa using h1, fun j hj => ?_, fun p hp => ?_⟩
    · rw [i1] at hj
      simp only [grp]
      by_cases hjq : (i + off) / steps = j
      · subst hjq
        rw [List.getElem?_set_self (by omega), if_pos rfl, hgd, grp_zero]
        · simp
        · intro k hk
          have : (k + off) / steps ≤ (i - 1 + off) / steps := Nat.div_le_div_right (by omega)
          omega
      · rw [List.getElem?_set_ne hjq, if_neg hjq, h2 j (by omega)]; rfl
    · rw [List.getElem?_set_ne (by omega)]; exact h3 p (by omega)
  · have e := hqs.2 hm
    have hy2 := h2 ((i + off) / steps) (by omega)
    rw [hy] at hy2
    have hyv : y = grp F steps off i ((i + off) / steps) := by simpa using hy2
    have hg : y + F[i] = grp F steps off (i + 1) ((i + off) / steps) := by simp only [grp]; rw [if_pos trivial, hgd, hyv]
    refine ⟨hg, by simpa using h1, fun j hj => ?_, fun p hp => ?_⟩
    · rw [i1] at hj
      by_cases hjq : (i + off) / steps = j
      · subst hjq
        rw [List.getElem?_set_self (by omega), hg]
      · rw [List.getElem?_set_ne hjq, h2 j (by omega)]
        simp only [grp]; rw [if_neg hjq]; rfl
    · rw [List.getElem?_set_ne (by omega)]; exact h3 p (by omega)

theorem grp_take (F : List Nat) (steps off n : Nat) : ∀ i j, i ≤ n → n ≤ F.length → grp F steps off i j = grp (F.take n) steps off i j := by
  intro i
  induction i with
  | zero => intro j _ _; rfl
  | succ i ih =>
    intro j h1 h2
    simp only [grp]
    rw [ih j (by omega) h2]
    simp [List.getD_eq_getElem?_getD, List.getElem?_take_of_lt (by omega : i < n)]

theorem DsRel.fin {F G : List Nat} {steps off n : Nat} (h : DsRel F steps off n G) (hn : 1 ≤ n) (hl : n ≤ F.length) (ho : off < steps) (hs : 2 ≤ steps) :
    G.take ((n - 1 + off) / steps + 1) = dsL (F.take n) steps off ∧ (n - 1 + off) / steps + 1 ≤ n := by
  obtain ⟨h1, h2, h3⟩ := h
  have hle : (n - 1 + off) / steps + 1 ≤ n := by
    by_cases hn1 : n = 1
    · subst hn1; rw [show 1 - 1 + off = off from by omega, Nat.div_eq_of_lt ho]; omega
    · have := q_le steps off (n - 1) ho hs (by omega)
      omega
  have ht : (F.take n).length = n := by simp; omega
  refine ⟨?_, hle⟩
  unfold dsL
  rw [ht]
  apply List.ext_getElem?
  intro j
  by_cases hj : j < (n - 1 + off) / steps + 1
  · rw [List.getElem?_take_of_lt hj, h2 j (by omega), List.getElem?_map, List.getElem?_range hj]
    simp only [Option.map_some]
    rw [grp_take F steps off n n j (Nat.le_refl _) hl]
  · rw [List.getElem?_eq_none (by simp; omega), List.getElem?_eq_none (by simp; omega)]
end Go.Proofs.YtlpddogcnpokfaaGreat
namespace Go.Proofs.YtlpddogcnpokfaaGreat
open Go.RowKit

theorem take_sum_le (F : List Nat) (a b : Nat) (h : a ≤ b) : (F.take a).sum ≤ (F.take b).sum := by
  have e : F.take b = F.take a ++ (F.drop a).take (b - a) := by
    rw [show b = a + (b - a) from by omega, List.take_add]; simp
  rw [e, List.sum_append]; omega

theorem addU (a : Addr) (y x : Nat) (w : World) (hc : w.cell? a = some (U y)) (hf : w.frozen? a = false) (h : y + x < 18446744073709551616) :
    Calls Tryz.prog 116 #[.pointer (some a), U x] w fun e w' => e = .returned (U (y + x)) ∧ w.setCell a (U (y + x)) = w' := by
  have e : Value.int .u64 (IntKind.u64.wrap ((y : Int) + (x : Int))) = U (y + x) := by
    unfold U; rw [IntWalk.u64_in _ (by omega)]; rfl
  rw [← e]
  exact add116 a (y : Int) (x : Int) w hc hf

set_option maxRecDepth 100000 in
set_option maxHeartbeats 1000000 in
theorem downscale120_short (b o : Nat) (st : Int) (v : Value) (n d : Nat) (w : World) (hs : w.cell? ⟨b, o, none⟩ = some (.int .i32 st)) (c : Nat) (ad : Option Addr)
    (hvv : v = .slice ad n c) (hn : n ≤ 1) (hv : w.cell? ⟨b, o + 1, none⟩ = some v) (hf0 : w.frozen? ⟨b, o, none⟩ = false) (_s1 : -1130000000 ≤ st) (_s2 : st ≤ 1130000000) (hd : d ≤ 30) :
    Calls Tryz.prog 120 #[.pointer (some ⟨b, o, none⟩), .int .i32 (d : Int)] w fun e w' => e = .returned (.tuple #[]) ∧ w.setCell ⟨b, o, none⟩ (.int .i32 (st / ((2 ^ d : Nat) : Int))) = w' := by
  subst hvv
  have hn' : decide ((n : Int) ≤ 1) = true := by simpa using (by omega : (n : Int) ≤ 1)
  go_enter Tryz.func120, Tryz.ntmps120
  go_wp2_with fail
  (try simp only [Exit.inBlock, Exit.then])
  refine bodyPost_ret (results_none rfl _ _ _) rfl ?_
  exact ⟨rfl, by rw [show ((2 ^ d : Nat) : Int) = (2 : Int) ^ d from by simp]⟩

set_option maxRecDepth 100000 in
set_option maxHeartbeats 1000000 in
theorem downscale120_long (b o g n d : Nat) (st : Int) (F : List Nat) (w : World) (hs : w.cell? ⟨b, o, none⟩ = some (.int .i32 st))
    (hv : w.cell? ⟨b, o + 1, none⟩ = some (.slice (some ⟨g, 0, none⟩) n F.length)) (hg : w.heap[g]? = some (rowObj F)) (hbg : b ≠ g)
    (hf0 : w.frozen? ⟨b, o, none⟩ = false) (hf1 : w.frozen? ⟨b, o + 1, none⟩ = false)
    (hn : 2 ≤ n) (hnF : n ≤ F.length) (hn2 : n ≤ 1000) (_s1 : -1130000000 ≤ st) (_s2 : st ≤ 1130000000) (hd1 : 1 ≤ d) (hd : d ≤ 30) (hF : F.length ≤ 9223372036854775807) (hsm : (F.take n).sum < 4611686018427387904) :
    Calls Tryz.prog 120 #[.pointer (some ⟨b, o, none⟩), .int .i32 (d : Int)] w fun e w' => e = .returned (.tuple #[]) ∧ ∃ G : List Nat, G.length = F.length ∧ ∃ k, k ≤ n ∧ G.take k = dsL (F.take n) (2 ^ d) (st % ((2 ^ d : Nat) : Int)).toNat ∧
      Dr (putRow ((w.setCell ⟨b, o + 1, none⟩ (.slice (some ⟨g, 0, none⟩) k F.length)).setCell ⟨b, o, none⟩ (.int .i32 (st / ((2 ^ d : Nat) : Int)))) g G) w' := by
  have hn' : decide ((n : Int) ≤ 1) = false := by simpa using (by omega : ¬ (n : Int) ≤ 1)
  have hd' : ¬ ((d : Int) < 1) := by omega
  obtain ⟨S, hS⟩ : ∃ S : Nat, S = 2 ^ d := ⟨_, rfl⟩
  have hS1 : 2 ≤ S := by rw [hS]; exact Nat.le_trans (by decide) (Nat.pow_le_pow_right (by decide) hd1 : 2 ^ 1 ≤ 2 ^ d)
  have hS2 : S ≤ 1073741824 := by rw [hS]; exact Nat.le_trans (Nat.pow_le_pow_right (by decide) hd : 2 ^ d ≤ 2 ^ 30) (by decide)
  have hSw : wrap32 ((2 : Int) ^ d) = (S : Int) := by
    have e : (2 : Int) ^ d = (S : Int) := by rw [hS]; simp
    rw [e]; unfold wrap32; omega
  obtain ⟨off, hoff⟩ : ∃ off : Nat, (off : Int) = st % (S : Int) := ⟨(st % (S : Int)).toNat, by have := Int.emod_nonneg st (show (S : Int) ≠ 0 by omega); omega⟩
  have ho : off < S := by have := Int.emod_lt_of_pos st (show (0 : Int) < (S : Int) by omega); omega
  have hofw : (wrap32 (st.tmod (S : Int) + (S : Int))).tmod (S : Int) = (off : Int) := by
    rw [hoff]
    have h1 := Int.tmod_lt_of_pos st (show (0 : Int) < (S : Int) by omega)
    have h2 : -(S : Int) < st.tmod (S : Int) := by
      have := Int.tmod_lt_of_pos (-st) (show (0 : Int) < (S : Int) by omega)
      rw [Int.neg_tmod] at this; omega
    have e : wrap32 (st.tmod (S : Int) + (S : Int)) = st.tmod (S : Int) + (S : Int) := by unfold wrap32; omega
    rw [e, Int.tmod_eq_emod_of_nonneg (by omega), Int.add_emod_right, Int.tmod_def]
    rw [Int.sub_emod, Int.mul_emod_right, Int.sub_zero, Int.emod_emod]
  have HS := Lib.hid hS
  have HOFF := Lib.hid hoff
  clear hS hoff
  go_enter Tryz.func120, Tryz.ntmps120
  go_wp2_with fail
  have HGW := Lib.hid hg
  have hgs := Lib.hid (heap_lt hg)
  have HBG := Lib.hid hbg
  clear hg hbg hSw hofw
  go_loopw [6] (fun i wr => ∃ (m : Nat) (G : List Nat), 1 ≤ m ∧ m ≤ n ∧ i = .int .i64 (m : Int) ∧ Dr (putRow w g G) wr ∧ DsRel F S off m G) (fun i _ => n - (intOf i).toNat)
  case atStart => exact ⟨1, F, by omega, by omega, rfl, ⟨0, by rw [putRow_same _ _ _ HGW.out]; rfl⟩, DsRel.start F S off ho (by omega)⟩
  case round =>
    obtain ⟨m, G, hm1, hm2, rfl, ⟨kd, hkd⟩, hsh⟩ := hrel
    have hvr : wr.cell? ⟨b, o + 1, none⟩ = some (.slice (some ⟨g, 0, none⟩) n F.length) := by
      rw [← hkd]; show (putRow w g G).cell? _ = _; rw [putRow_cell_other _ _ _ _ _ HBG.out]; exact hv
    have hsr : wr.cell? ⟨b, o, none⟩ = some (.int .i32 st) := by
      rw [← hkd]; show (putRow w g G).cell? _ = _; rw [putRow_cell_other _ _ _ _ _ HBG.out]; exact hs
    have hfr : wr.frozen? ⟨b, o, none⟩ = false := by
      rw [← hkd]; show (putRow w g G).frozen? _ = _; rw [putRow_frozen_other _ _ _ _ _ HBG.out]; exact hf0
    have hfr1 : wr.frozen? ⟨b, o + 1, none⟩ = false := by
      rw [← hkd]; show (putRow w g G).frozen? _ = _; rw [putRow_frozen_other _ _ _ _ _ HBG.out]; exact hf1
    have HKD := Lib.hid hkd
    have HSH := Lib.hid hsh
    clear hkd hsh
    by_cases hlt : m < n
    · obtain ⟨x, y, hgx, hfx, hgy, hz, hnz⟩ := HSH.out.step ho hS1 hm1 (by omega)
      have hql := q_le S off m ho hS1 hm1
      obtain ⟨q, hq⟩ : ∃ q, q = (m + off) / S := ⟨_, rfl⟩
      rw [← hq] at hgy hz hnz hql
      by_cases hmod : (m + off) % S = 0
      · have hmb : (((m : Int) + (off : Int)) % (S : Int) == 0) = true := by
          have : (((m : Int) + (off : Int)) % (S : Int)) = (((m + off) % S : Nat) : Int) := by simp
          rw [this, hmod]; rfl
        have hrel2 := Lib.hid (hz hmod)
        have hvm : wr.drew.cell? ⟨b, o + 1, none⟩ = some (.slice (some ⟨g, 0, none⟩) n F.length) := hvr
        have d1 : wr.drew.cell? ⟨g, m, none⟩ = some (U x) := by rw [← HKD.out]; exact (putRow_cell w g m G hgs.out).trans (by rw [hgx]; rfl)
        have d2 : wr.drew.cell? ⟨g, q, none⟩ = some (U y) := by rw [← HKD.out]; exact (putRow_cell w g q G hgs.out).trans (by rw [hgy]; rfl)
        have d3 : wr.drew.frozen? ⟨g, q, none⟩ = false := by rw [← HKD.out]; exact putRow_frozen w g q G hgs.out
        have hset := fun z => Lib.hid (show wr.drew.setCell ⟨g, q, none⟩ (U z) = (putRow w g (G.set q z)).drewN (kd + 1) by
          rw [← HKD.out]; exact putRow_setCell (w.drewN (kd + 1)) g q z G hgs.out)
        have w1 : IntKind.i64.wrap (((m : Int) + (off : Int)).tdiv (S : Int)) = (q : Int) := by
          rw [IntWalk.i64_quo _ _ (by omega), hq]; simp
        have w2 : IntKind.i64.wrap ((m : Int) + (off : Int)) = (m : Int) + (off : Int) := IntWalk.i64_in _ (by omega)
        have w4 : IntKind.i64.wrap (S : Int) = (S : Int) := IntWalk.i64_in _ (by omega)
        have w8 : ¬ S = 0 := by omega
        have w5 : (q : Int) < (n : Int) := by omega
        have w6 : (0 : Int) ≤ (q : Int) := by omega
        have w7 : (m : Int) < (n : Int) := by omega
        have HQ := Lib.hid hq
        clear hz hnz hmod
        clear hq hgx hfx hgy
        go_wp2_with fail
        refine wp_region_still_tail 16 (by kernel_rfl) (by kernel_rfl) ?_
        change wpStill _ _ wr.drew (fun a' => wpList _ _ _ _ a' wr.drew) _ _
        have HWR := Lib.hid (show wr.drew = wr.drew from rfl)
        generalize hw4 : wr.drew = w4 at *
        clear hw4 HWR hvr hsr hfr hfr1
        simp only [List.take_succ_cons, List.take_zero, List.drop_succ_cons, List.drop_zero]
        repeat still_step
        still_call (load80' _ _ _ d1)
        refine wpStill_nil ?_
        go_wp2_with (go_at_call 143; refine (storeU _ _ _ _ d2 d3).mono ?_; rintro e w' ⟨rfl, rfl⟩)
        go_roundw
        case rel => exact ⟨m + 1, G.set q x, by omega, by omega, by go_num, ⟨kd + 1, (hset x).out.symm⟩, hrel2.out⟩
        case measure => simp [intOf]; omega
      · have hmb : (((m : Int) + (off : Int)) % (S : Int) == 0) = false := by
          have e : (((m : Int) + (off : Int)) % (S : Int)) = (((m + off) % S : Nat) : Int) := by simp
          rw [e, beq_eq_false_iff_ne]; omega
        have hrel2 := Lib.hid (hnz hmod)
        have hsum : y + x < 4611686018427387904 := by
          have h1 := grp_le F S off (m + 1) ((m + off) / S) (by omega)
          have h2 := take_sum_le F (m + 1) n (by omega)
          have := (hnz hmod).1
          rw [hq] at this; omega
        have hvm : wr.drew.cell? ⟨b, o + 1, none⟩ = some (.slice (some ⟨g, 0, none⟩) n F.length) := hvr
        have d1 : wr.drew.cell? ⟨g, m, none⟩ = some (U x) := by rw [← HKD.out]; exact (putRow_cell w g m G hgs.out).trans (by rw [hgx]; rfl)
        have d2 : wr.drew.cell? ⟨g, q, none⟩ = some (U y) := by rw [← HKD.out]; exact (putRow_cell w g q G hgs.out).trans (by rw [hgy]; rfl)
        have d3 : wr.drew.frozen? ⟨g, q, none⟩ = false := by rw [← HKD.out]; exact putRow_frozen w g q G hgs.out
        have hset := fun z => Lib.hid (show wr.drew.setCell ⟨g, q, none⟩ (U z) = (putRow w g (G.set q z)).drewN (kd + 1) by
          rw [← HKD.out]; exact putRow_setCell (w.drewN (kd + 1)) g q z G hgs.out)
        have w1 : IntKind.i64.wrap (((m : Int) + (off : Int)).tdiv (S : Int)) = (q : Int) := by
          rw [IntWalk.i64_quo _ _ (by omega), hq]; simp
        have w2 : IntKind.i64.wrap ((m : Int) + (off : Int)) = (m : Int) + (off : Int) := IntWalk.i64_in _ (by omega)
        have w4 : IntKind.i64.wrap (S : Int) = (S : Int) := IntWalk.i64_in _ (by omega)
        have w8 : ¬ S = 0 := by omega
        have w5 : (q : Int) < (n : Int) := by omega
        have w6 : (0 : Int) ≤ (q : Int) := by omega
        have w7 : (m : Int) < (n : Int) := by omega
        have HQ := Lib.hid hq
        clear hz hnz hmod
        clear hq hgx hfx hgy
        go_wp2_with fail
        refine wp_region_still_tail 16 (by kernel_rfl) (by kernel_rfl) ?_
        change wpStill _ _ wr.drew (fun a' => wpList _ _ _ _ a' wr.drew) _ _
        have HWR := Lib.hid (show wr.drew = wr.drew from rfl)
        generalize hw4 : wr.drew = w4 at *
        clear hw4 HWR hvr hsr hfr hfr1
        simp only [List.take_succ_cons, List.take_zero, List.drop_succ_cons, List.drop_zero]
        repeat still_step
        still_call (load80' _ _ _ d1)
        refine wpStill_nil ?_
        have hy2 : Value.int .u64 (IntKind.u64.wrap ((y : Int) + (x : Int))) = U (y + x) := by
          unfold U; rw [IntWalk.u64_in _ (by omega)]; rfl
        have HY := Lib.hid hy2
        clear hy2
        go_wp2_with (go_at_call 116; refine (addU _ _ _ _ d2 d3 (by omega)).mono ?_; rintro e w' ⟨rfl, rfl⟩)
        go_roundw
        case rel => exact ⟨m + 1, G.set q (y + x), by omega, by omega, by go_num, ⟨kd + 1, (hset (y + x)).out.symm⟩, hrel2.out.2⟩
        case measure => simp [intOf]; omega
    · obtain rfl : m = n := by omega
      have hfin := HSH.out.fin (by omega) hnF ho hS1
      obtain ⟨q, hq⟩ : ∃ q, q = (m - 1 + off) / S := ⟨_, rfl⟩
      rw [← hq] at hfin
      have w1 : ((m : Int) - 1 + (off : Int)) / (S : Int) = (q : Int) := by
        rw [hq, show (m : Int) - 1 + (off : Int) = ((m - 1 + off : Nat) : Int) from by omega]; simp
      have HF := Lib.hid hfin
      have hq2 : (q : Int) + 1 ≤ (F.length : Int) := by omega
      have hq3 : (0 : Int) ≤ (q : Int) + 1 := by omega
      have hq4 : q < 1000 := by omega
      clear hfin hq hlt
      go_wp2_with fail
      (try simp only [Exit.inBlock, Exit.then])
      refine bodyPost_end (results_none rfl _ _ _) rfl ?_
      refine ⟨rfl, G, HSH.out.1, q + 1, HF.out.2, ?_, kd, ?_⟩
      · rw [HF.out.1, ← HS.out]
        have : (st % (S : Int)).toNat = off := by rw [← HOFF.out]; simp
        rw [this]
      · rw [← HKD.out, show ((2 ^ d : Nat) : Int) = (2 : Int) ^ d from by simp]
        show _ = (((putRow (w.drewN kd) g G).setCell _ _).setCell _ _)
        rw [putRow_setCell_other _ _ _ _ _ _ HBG.out, putRow_setCell_other _ _ _ _ _ _ HBG.out]
        rfl
end Go.Proofs.YtlpddogcnpokfaaGreat
namespace Go.Proofs.YtlpddogcnpokfaaGreat
open Go.RowKit

/-- a side at a scale that is less by 'd' -/
def dsSide (st : Int) (l : List Nat) (d : Nat) : List Nat := if l.length ≤ 1 then l else dsL l (2 ^ d) (st % ((2 ^ d : Nat) : Int)).toNat

theorem cells_of_setCell0 (w : World) (b o : Nat) (v : Value) : CellsBut w (w.setCell ⟨b, o, none⟩ v) b o := by
  refine ⟨fun i h1 h2 => ?_, fun i => ?_⟩
  · go_simp
  · go_simp

/-- A SIDE AT A LESSER SCALE. -/
theorem downscale120 (b o : Nat) (st : Int) (l : List Nat) (og : Option Nat) (d : Nat) (w : World) (h : SideAt w b o st l og)
    (hf0 : w.frozen? ⟨b, o, none⟩ = false) (hf1 : w.frozen? ⟨b, o + 1, none⟩ = false) (s1 : -1130000000 ≤ st) (s2 : st ≤ 1130000000) (hd1 : 1 ≤ d) (hd : d ≤ 30)
    (hlen : l.length ≤ 1000) (hsm : l.sum < 4611686018427387904) :
    Calls Tryz.prog 120 #[.pointer (some ⟨b, o, none⟩), .int .i32 (d : Int)] w fun e w' => e = .returned (.tuple #[]) ∧ RecPost w w' b o (st / ((2 ^ d : Nat) : Int)) (dsSide st l d) og := by
  obtain ⟨hs, hr⟩ := h
  rcases hr with ⟨hv, rfl, rfl⟩ | ⟨g, F, hv, rfl, hne, hg, hgb, hlF, hF, ht⟩
  · refine (downscale120_short b o st _ 0 d w hs 0 none rfl (by omega) hv hf0 s1 s2 hd).mono ?_
    rintro e w' ⟨he, rfl⟩
    refine ⟨he, none, ⟨by go_simp, .inl ⟨by go_simp, by simp [dsSide], rfl⟩⟩, (Kept.refl _ _).setCell (.inl (by simp [touched])) _, cells_of_setCell0 w b o _, .inl rfl⟩
  · have h0 := len_pos hne
    by_cases h1 : l.length ≤ 1
    · refine (downscale120_short b o st _ l.length d w hs F.length _ rfl h1 hv hf0 s1 s2 hd).mono ?_
      rintro e w' ⟨he, rfl⟩
      have e : dsSide st l d = l := by unfold dsSide; rw [if_pos h1]
      rw [e]
      refine ⟨he, some g, ⟨by go_simp, .inr ⟨g, F, by go_simp, rfl, hne, ?_, hgb, hlF, hF, ht⟩⟩, (Kept.refl _ _).setCell (.inl (by simp [touched])) _, cells_of_setCell0 w b o _, .inl rfl⟩
      rw [Below.heap_setCell _ _ _ _ hgb]; exact hg
    · refine (downscale120_long b o g l.length d st F w hs hv hg hgb.symm hf0 hf1 (by omega) hlF hlen s1 s2 hd1 hd (by unfold maxLen at hF; omega) (by rw [ht]; exact hsm)).mono ?_
      rintro e w' ⟨he, G, e1, k, e2, e3, hdr⟩
      rw [ht] at e3
      have e : dsSide st l d = dsL l (2 ^ d) (st % ((2 ^ d : Nat) : Int)).toNat := by unfold dsSide; rw [if_neg h1]
      rw [e]
      have hk : (dsL l (2 ^ d) (st % ((2 ^ d : Nat) : Int)).toNat).length = k := by rw [← e3]; simp; omega
      have hk0 : dsL l (2 ^ d) (st % ((2 ^ d : Nat) : Int)).toNat ≠ [] := by
        intro h; have := congrArg List.length h; simp [dsL] at this
      exact ⟨he, (post_row w b o g _ _ G k F.length hgb (heap_lt hg) (by rw [hs]; rfl) (by rw [hv]; rfl) hk e1 (by omega) hF e3 hk0).dr hdr⟩
end Go.Proofs.YtlpddogcnpokfaaGreat
