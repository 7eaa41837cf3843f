/- FnExpoInts: sums, least and greatest ones of whole numbers and of their floats; the walk of the law. -/
import Derived.Test.YtlpddogcnpokfaaGreatIn8
import Derived.Test.YtlpddogcnpokfaaGreatFb
namespace Go.Proofs.YtlpddogcnpokfaaGreat.Lg
open Ieee
theorem int_abs (n : Int) : ((n : Int) : Rat) = sg (decide (n < 0)) * (((n.natAbs : Nat) : Rat) * p2 0) := by
  rw [p2_zero]
  by_cases hs : n < 0
  · have e2 : ((n.natAbs : Nat) : Rat) = -((n : Int) : Rat) := by rw [← Rat.intCast_neg, ← Rat.intCast_natCast]; congr 1; omega
    rw [e2, decide_eq_true hs]; unfold sg; simp; grind
  · have e2 : ((n.natAbs : Nat) : Rat) = ((n : Int) : Rat) := by rw [← Rat.intCast_natCast]; congr 1; omega
    rw [e2, decide_eq_false hs]; unfold sg; simp
/-- a whole number below 2^53 is a double -/
theorem foi_is (n : Int) (h : n.natAbs < 9007199254740992) : Is (floatOfInt .f64 n) ((n : Int) : Rat) := by
  rw [int_abs n]
  exact write_exactI (decide (n < 0)) n.natAbs 0 n.natAbs 0 h rfl (by decide) (by decide)
theorem int_q (n : Int) : ((n * 1048576 : Int) : Rat) * p2 (-20) = (n : Rat) := by
  have h20 : (1048576 : Rat) * p2 (-20) = 1 := by
    have : p2 20 = ((2 ^ 20 : Nat) : Rat) := p2_nat 20
    have h2 : p2 (-20 + 20) = p2 (-20) * p2 20 := p2_add _ _
    rw [show (-20 + 20 : Int) = 0 from rfl, p2_zero, this] at h2
    have h3 : ((2 ^ 20 : Nat) : Rat) = 1048576 := by decide +kernel
    rw [h3] at h2; grind
  rw [Rat.intCast_mul, show ((1048576 : Int) : Rat) = (1048576 : Rat) from rfl, Rat.mul_assoc, h20]; grind
theorem abs_int (b : Bool) (x : Rat) (k : Int) (hx : 0 ≤ x) (h : sg b * x = (k : Rat)) : x = ((k.natAbs : Nat) : Rat) * p2 0 := by
  have h1 := natAbs_val b x (k * 1048576) hx (by rw [int_q]; exact h)
  have e : (k * 1048576).natAbs = k.natAbs * 1048576 := by rw [Int.natAbs_mul]; rfl
  rw [e] at h1
  have h2 := int_q (k.natAbs : Int)
  rw [p2_zero]
  rw [h1, show (((k.natAbs * 1048576 : Nat) : Nat) : Rat) = (((k.natAbs : Int) * 1048576 : Int) : Rat) from rfl, h2]
  rw [Rat.mul_one]; rfl
/-- the sum of two whole numbers -/
theorem add_int {x y : Nat} {a b : Int} (hx : Is x (a : Rat)) (hy : Is y (b : Rat)) (h : (a + b).natAbs < 9007199254740992) : ∃ w, floatBits .add .f64 x y = some w ∧ Is w ((a + b : Int) : Rat) := by
  obtain ⟨s, m, i, hr, e1⟩ := hx
  obtain ⟨t, n, j, hr', e2⟩ := hy
  obtain ⟨c, u, k, he, hv⟩ := add_exact (s := s) (t := t) (m := m) (n := n) (i := i) (j := j)
  have hval : sg c * ((u : Rat) * p2 k) = ((a + b : Int) : Rat) := by rw [hv, ← e1, ← e2, Rat.intCast_add]
  have hn := abs_int c _ _ (Rat.mul_nonneg Rat.natCast_nonneg (Rat.le_of_lt (p2_pos k))) hval
  refine ⟨double.write (.number c u k), ?_, ?_⟩
  · show double.add x y = _
    unfold Format.add
    rw [hr, hr', he]; rfl
  · rw [← hval]
    exact write_exactI c u k _ 0 h hn (by decide) (by decide)
/-- a whole number is not greater when it is cut -/
theorem to_int {w : Nat} {n : Int} (h : Is w (n : Rat)) (hn : n.natAbs < 9007199254740992) : ∃ k, floatToIntVal .f64 w .i64 = some k ∧ k.natAbs ≤ n.natAbs := by
  have hq : Q20 w (n * 1048576) := by unfold Q20; rw [int_q]; exact h
  obtain ⟨s, m, i, hr, _⟩ := id h
  have hc := q20_cut hq hr
  have e : (n * 1048576).natAbs = n.natAbs * 1048576 := by rw [Int.natAbs_mul]; rfl
  rw [e] at hc
  obtain ⟨N, hN⟩ : ∃ N, N = (m <<< i.toNat) / 2 ^ (-i).toNat := ⟨_, rfl⟩
  rw [← hN] at hc
  have hNn : N ≤ n.natAbs := Nat.le_of_mul_le_mul_right hc (by decide)
  have ht : (double.read w).toInt .zero = some (signed s N 0) := by
    rw [hr]
    unfold Datum.toInt Datum.integral
    simp only [cut_zero, ← hN]
  refine ⟨signed s N 0, ?_, ?_⟩
  · unfold floatToIntVal
    rw [show (FloatKind.f64.decode w).toInt .zero = some (signed s N 0) from ht]
    have : IntKind.i64.min ≤ signed s N 0 ∧ signed s N 0 ≤ IntKind.i64.max := by
      unfold signed
      have e1 : IntKind.i64.min = -9223372036854775808 := by decide
      have e2 : IntKind.i64.max = 9223372036854775807 := by decide
      rw [e1, e2, Nat.shiftLeft_zero]
      split <;> omega
    simp only [this, and_self, if_true]
  · unfold signed
    rw [Nat.shiftLeft_zero]
    split <;> simp <;> omega
theorem int_inj {a b : Int} (h : (a : Rat) = (b : Rat)) : a = b := by
  have h1 : (a : Rat) ≤ (b : Rat) := by rw [h]; exact Rat.le_refl
  have h2 : (b : Rat) ≤ (a : Rat) := by rw [h]; exact Rat.le_refl
  have h3 := Rat.intCast_le_intCast.1 h1
  have h4 := Rat.intCast_le_intCast.1 h2
  omega
end Go.Proofs.YtlpddogcnpokfaaGreat.Lg
namespace Go.Proofs.YtlpddogcnpokfaaGreat.I
open Go.RowKit
/-- the sum of the numbers of words -/
def isum : List Nat → Int
  | [] => 0
  | v :: l => isum l + sgn v
theorem isum_le : ∀ {l : List Nat}, (∀ v, v ∈ l → okI v) → (isum l).natAbs ≤ l.length * 1099511627776
  | [], _ => Nat.le_refl _
  | v :: l, h => by
    have h1 := isum_le (l := l) fun v hv => h v (List.mem_cons_of_mem _ hv)
    have h2 := h v List.mem_cons_self
    unfold okI at h2
    unfold isum
    rw [List.length_cons, Nat.succ_mul]
    omega
theorem wrap64_in {n : Int} (h1 : -9223372036854775808 ≤ n) (h2 : n ≤ 9223372036854775807) : wrap64 n = n := by
  unfold wrap64
  omega
/-- the sum of whole numbers -/
theorem SumRun.exact : ∀ {l : List Nat} {fb : Nat} {ni : Int}, SumRun l fb ni → (∀ v, v ∈ l → okI v) → l.length ≤ 1000 → ni = isum l
  | [], _, _, h, _, _ => h.2
  | v :: l, _, _, h, hv, hl => by
    obtain ⟨fb, ni, h1, rfl, rfl⟩ := h
    have hv' : ∀ v, v ∈ l → okI v := fun v hx => hv v (List.mem_cons_of_mem _ hx)
    rw [List.length_cons] at hl
    have e := SumRun.exact h1 hv' (by omega)
    have b1 := isum_le hv'
    have b2 := (hv v List.mem_cons_self).2
    have b3 : l.length * 1099511627776 ≤ 1000 * 1099511627776 := Nat.mul_le_mul_right _ (by omega)
    rw [e]
    exact wrap64_in (by omega) (by omega)
/-- the sum of the floats of whole numbers -/
theorem SumRunF.exact : ∀ {l : List Nat} {fb : Nat} {ni : Int}, Go.Proofs.YtlpddogcnpokfaaGreat.SumRun (l.map fv) fb ni → (∀ v, v ∈ l → okI v) → l.length ≤ 1000 →
    ∃ a : Int, Lg.Is fb (a : Rat) ∧ a + ni = isum l ∧ a.natAbs + ni.natAbs ≤ l.length * 1099511627776
  | [], _, _, h, _, _ => by obtain ⟨rfl, rfl⟩ := h; exact ⟨0, Lg.is_zero, rfl, Nat.le_refl _⟩
  | v :: l, _, _, h, hv, hl => by
    obtain ⟨fb, ni, h1, kk, hk, _, _, hstep⟩ := h
    have hv' : ∀ v, v ∈ l → okI v := fun v hx => hv v (List.mem_cons_of_mem _ hx)
    rw [List.length_cons] at hl
    obtain ⟨a, ha, hs, hb⟩ := SumRunF.exact h1 hv' (by omega)
    have hov := hv v List.mem_cons_self
    have hvn := hov.2
    have b3 : l.length * 1099511627776 ≤ 1000 * 1099511627776 := Nat.mul_le_mul_right _ (by omega)
    obtain ⟨k0, hk0, hk0b⟩ := Lg.to_int (fv_is hov) (by omega)
    obtain rfl := hk k0 hk0
    have he := Lg.order_eq (Lg.foi_is kk (by omega)) (fv_is hov)
    rw [List.length_cons, Nat.succ_mul]
    rcases hstep with ⟨e, rfl, rfl⟩ | ⟨e, rfl, hadd⟩
    · rw [show (FloatKind.f64.format.order (floatOfInt .f64 kk) (fv v) == some Ordering.eq) = decide ((kk : Rat) = ((sgn v : Int) : Rat)) from he] at e
      have e' := Lg.int_inj (of_decide_eq_true e)
      refine ⟨a, ha, ?_, ?_⟩
      · rw [wrap64_in (by omega) (by omega)]
        show _ = isum l + sgn v
        omega
      · rw [wrap64_in (by omega) (by omega)]
        omega
    · obtain ⟨w, hw, hqw⟩ := Lg.add_int ha (fv_is hov) (by omega)
      rw [hadd w hw]
      refine ⟨a + sgn v, hqw, ?_, by omega⟩
      show _ = isum l + sgn v
      omega
/-- both sums are one number -/
theorem sums {l : List Nat} {r : Int} {r' : Nat} (hv : ∀ v, v ∈ l → okI v) (hl : l.length ≤ 1000) (h : SumOf l r) (h' : Go.Proofs.YtlpddogcnpokfaaGreat.SumOf (l.map fv) r') :
    r.natAbs < 9007199254740992 ∧ Lg.Is r' (r : Rat) := by
  obtain ⟨fb, ni, h1, _, h2⟩ := h
  obtain ⟨fb', ni', h3, _, h4⟩ := h'
  rw [← List.map_reverse] at h3
  have hv' : ∀ v, v ∈ l.reverse → okI v := fun v hx => hv v (List.mem_reverse.1 hx)
  have e1 := h1.exact hv' (by simpa using hl)
  obtain ⟨a, ha, hs, hb⟩ := SumRunF.exact h3 hv' (by simpa using hl)
  have b1 := isum_le hv'
  rw [List.length_reverse] at b1 hb
  have b3 : l.length * 1099511627776 ≤ 1000 * 1099511627776 := Nat.mul_le_mul_right _ hl
  obtain ⟨w, hw, hqw⟩ := Lg.add_int ha (Lg.foi_is ni' (by omega)) (by omega)
  rw [h4 w hw]
  rw [hs, ← e1, ← h2] at hqw
  rw [h2, e1]
  exact ⟨by omega, by rw [← e1, ← h2]; exact hqw⟩
theorem ltW_fv {a b : Nat} (ha : okI a) (hb : okI b) : Go.Proofs.YtlpddogcnpokfaaGreat.ltW (fv a) (fv b) = ltI a b := by
  rw [show Go.Proofs.YtlpddogcnpokfaaGreat.ltW (fv a) (fv b) = decide (_ < _) from Lg.order_lt (fv_is ha) (fv_is hb)]
  unfold ltI
  congr 1
  exact propext Rat.intCast_lt_intCast
theorem mm_fv : ∀ (l : List Nat) (a b : Nat), okI a → okI b → (∀ v, v ∈ l → okI v) → ∃ a' b', okI a' ∧ okI b' ∧ l.foldl (fun m v => some (mmOpt v m)) (some (a, b)) = some (a', b') ∧
    (l.map fv).foldl (fun m v => some (Go.Proofs.YtlpddogcnpokfaaGreat.mmOpt v m)) (some (fv a, fv b)) = some (fv a', fv b')
  | [], a, b, ha, hb, _ => ⟨a, b, ha, hb, rfl, rfl⟩
  | x :: l, a, b, ha, hb, hl => by
    have hx := hl x List.mem_cons_self
    have hl' : ∀ v, v ∈ l → okI v := fun v hv => hl v (List.mem_cons_of_mem _ hv)
    rw [List.map_cons, List.foldl_cons, List.foldl_cons]
    show ∃ a' b', okI a' ∧ okI b' ∧ l.foldl _ (some (mmStep x a b)) = some (a', b') ∧ (l.map fv).foldl _ (some (Go.Proofs.YtlpddogcnpokfaaGreat.mmStep (fv x) (fv a) (fv b))) = some (fv a', fv b')
    unfold mmStep Go.Proofs.YtlpddogcnpokfaaGreat.mmStep
    rw [ltW_fv hx ha, ltW_fv hb hx]
    by_cases h1 : ltI x a = true
    · rw [if_pos h1, if_pos h1]; exact mm_fv l x b hx hb hl'
    · rw [if_neg h1, if_neg h1]
      by_cases h2 : ltI b x = true
      · rw [if_pos h2, if_pos h2]; exact mm_fv l a x ha hx hl'
      · rw [if_neg h2, if_neg h2]; exact mm_fv l a b ha hb hl'
/-- the least and the greatest one of both -/
theorem mms {l : List Nat} {a b a' b' : Nat} (hv : ∀ v, v ∈ l → okI v) (h : mmOf l = some (a, b)) (h' : Go.Proofs.YtlpddogcnpokfaaGreat.mmOf (l.map fv) = some (a', b')) : okI a ∧ okI b ∧ a' = fv a ∧ b' = fv b := by
  cases l with
  | nil => cases h
  | cons x l =>
    have hx := hv x List.mem_cons_self
    obtain ⟨c, d, hc, hd, e1, e2⟩ := mm_fv l x x hx hx fun v hx => hv v (List.mem_cons_of_mem _ hx)
    have h1 : l.foldl (fun m v => some (mmOpt v m)) (some (x, x)) = some (a, b) := h
    have h2 : (l.map fv).foldl (fun m v => some (Go.Proofs.YtlpddogcnpokfaaGreat.mmOpt v m)) (some (fv x, fv x)) = some (a', b') := h'
    rw [e1] at h1; rw [e2] at h2
    injection h1 with h1; injection h1 with h1 h1'; subst h1 h1'
    injection h2 with h2; injection h2 with h2 h2'
    exact ⟨hc, hd, h2.symm, h2'.symm⟩
end Go.Proofs.YtlpddogcnpokfaaGreat.I
namespace Go.Proofs.YtlpddogcnpokfaaGreat.I
open Go.RowKit Go.Maps
set_option maxHeartbeats 1000000 in
set_option maxRecDepth 100000 in
theorem few18 (rs : List Value) (ns : List Nat) (V : Value) (w : World) (hV : SlAt w V rs) (hlen : rs.length = ns.length) (hrs : ∀ (i n : Nat), ns[i]? = some n → ∃ (p : Option Addr) (c : Nat), rs[i]? = some (Value.slice p n c)) (hl : ns.length ≤ 2147483647) (hn : ∀ n, n ∈ ns → n ≤ maxLen) :
    Calls Tryz.prog 18 #[V] w fun e w' => e = .returned (.bool (decide ((∀ n, n ∈ ns → n ≤ 60) ∧ ns.length ≤ 6))) ∧ Kept [] w w' := by
  obtain ⟨p, c, rfl, hp⟩ := hV.read
  rw [hlen]
  have HP := Lib.hid (And.intro hp (And.intro hrs hn))
  have HLN := Lib.hid hl
  clear hp hV hlen hrs hn hl
  go_enter Tryz.func18, Tryz.ntmps18
  go_wp2_with fail
  go_loopw [7] (fun i wr => ∃ m : Nat, m ≤ ns.length ∧ i = .int .i64 (m : Int) ∧ (∀ (j n : Nat), j < m → ns[j]? = some n → n ≤ 60) ∧ w = wr) (fun i _ => ns.length - (intOf i).toNat)
  case atStart => exact ⟨0, Nat.zero_le _, rfl, fun j n h => by omega, rfl⟩
  case round =>
  obtain ⟨m, hm, rfl, hpre, rfl⟩ := hrel
  have HI := Lib.hid (And.intro hm hpre)
  clear hm hpre
  by_cases hmlt : m < ns.length
  · obtain ⟨n, hx⟩ : ∃ n, ns[m]? = some n := ⟨_, List.getElem?_eq_getElem hmlt⟩
    obtain ⟨p1, c1, hr⟩ := HP.out.2.1 m n hx
    obtain ⟨a1, rfl, h1⟩ := HP.out.1 m _ hr
    have hmi : (m : Int) < (ns.length : Int) := by omega
    have hmw : IntKind.i64.wrap ((m : Int) + 1) = (m : Int) + 1 := IntWalk.i64_in _ (by have := HLN.out; omega)
    have HX := Lib.hid hx
    clear hx hr
    by_cases h60 : n ≤ 60
    · have hg : ¬ ((60 : Int) < (n : Int)) := by omega
      go_wp2_with fail
      go_roundw
      case rel =>
        refine ⟨m + 1, by omega, by go_num, ?_, trivial⟩
        intro j n' hj hx'
        rcases Nat.lt_or_ge j m with h | h
        · exact HI.out.2 j n' h hx'
        · obtain rfl : j = m := by omega
          rw [HX.out] at hx'; injection hx' with e; omega
      case measure => simp [intOf]; omega
    · have hg : ((60 : Int) < (n : Int)) := by omega
      go_wp2_with fail
      go_ret
      refine ⟨?_, Kept.refl _ _⟩
      rw [decide_eq_false (fun h => h60 (h.1 n (List.mem_of_getElem? HX.out)))]; rfl
  · have hml : (m : Int) = (ns.length : Int) := by have := HI.out.1; omega
    by_cases h6 : ns.length ≤ 6
    · have h6' : (ns.length : Int) ≤ 6 := by omega
      have H6 := Lib.hid h6
      go_wp2_with fail
      go_ret
      refine ⟨?_, Kept.refl _ _⟩
      rw [decide_eq_true ⟨fun n hn => by obtain ⟨j, hj⟩ := List.getElem?_of_mem hn; exact HI.out.2 j n (by have := (List.getElem?_eq_some_iff.1 hj).1; omega) hj, H6.out⟩]
      simp
    · have h6' : ¬ (ns.length : Int) ≤ 6 := by omega
      have H6 := Lib.hid h6
      go_wp2_with fail
      go_ret
      refine ⟨?_, Kept.refl _ _⟩
      rfl
set_option maxHeartbeats 1000000 in
set_option maxRecDepth 100000 in
theorem fits16 (rs : List Value) (ns : List Nat) (V : Value) (w : World) (hV : SlAt w V rs) (hlen : rs.length = ns.length) (hrs : ∀ (i n : Nat), ns[i]? = some n → ∃ (p : Option Addr) (c : Nat), rs[i]? = some (Value.slice p n c)) (hl : ns.length ≤ 2147483647) (hn : ∀ n, n ∈ ns → n ≤ maxLen) :
    Calls Tryz.prog 16 #[V] w fun e w' => e = .returned (.bool (decide (∀ n, n ∈ ns → n ≤ 2147483647))) ∧ Kept [] w w' := by
  obtain ⟨p, c, rfl, hp⟩ := hV.read
  rw [hlen]
  have HP := Lib.hid (And.intro hp (And.intro hrs hn))
  have HLN := Lib.hid hl
  clear hp hV hlen hrs hn hl
  have hnb : ¬ ((2147483647 : Int) < (ns.length : Int)) := by have := HLN.out; omega
  go_enter Tryz.func16, Tryz.ntmps16
  go_wp2_with fail
  go_loopw [10] (fun i wr => ∃ m : Nat, m ≤ ns.length ∧ i = .int .i64 (m : Int) ∧ (∀ (j n : Nat), j < m → ns[j]? = some n → n ≤ 2147483647) ∧ w = wr) (fun i _ => ns.length - (intOf i).toNat)
  case atStart => exact ⟨0, Nat.zero_le _, rfl, fun j n h => by omega, rfl⟩
  case round =>
  obtain ⟨m, hm, rfl, hpre, rfl⟩ := hrel
  have HI := Lib.hid (And.intro hm hpre)
  clear hm hpre
  by_cases hmlt : m < ns.length
  · obtain ⟨n, hx⟩ : ∃ n, ns[m]? = some n := ⟨_, List.getElem?_eq_getElem hmlt⟩
    obtain ⟨p1, c1, hr⟩ := HP.out.2.1 m n hx
    obtain ⟨a1, rfl, h1⟩ := HP.out.1 m _ hr
    have hmi : (m : Int) < (ns.length : Int) := by omega
    have hmw : IntKind.i64.wrap ((m : Int) + 1) = (m : Int) + 1 := IntWalk.i64_in _ (by have := HLN.out; omega)
    have HX := Lib.hid hx
    clear hx hr
    by_cases h60 : n ≤ 2147483647
    · have hg : ¬ ((2147483647 : Int) < (n : Int)) := by omega
      go_wp2_with fail
      go_roundw
      case rel =>
        refine ⟨m + 1, by omega, by go_num, ?_, trivial⟩
        intro j n' hj hx'
        rcases Nat.lt_or_ge j m with h | h
        · exact HI.out.2 j n' h hx'
        · obtain rfl : j = m := by omega
          rw [HX.out] at hx'; injection hx' with e; omega
      case measure => simp [intOf]; omega
    · have hg : ((2147483647 : Int) < (n : Int)) := by omega
      go_wp2_with fail
      go_ret
      refine ⟨?_, Kept.refl _ _⟩
      have hno : ¬ ∀ n, n ∈ ns → n ≤ 2147483647 := fun h => h60 (h n (List.mem_of_getElem? HX.out))
      rw [decide_eq_false hno]; rfl
  · have hml : (m : Int) = (ns.length : Int) := by have := HI.out.1; omega
    go_wp2_with fail
    go_ret
    refine ⟨?_, Kept.refl _ _⟩
    have hyes : ∀ n, n ∈ ns → n ≤ 2147483647 := fun n hn => by obtain ⟨j, hj⟩ := List.getElem?_of_mem hn; exact HI.out.2 j n (by have := (List.getElem?_eq_some_iff.1 hj).1; omega) hj
    rw [decide_eq_true hyes]
    rfl
set_option maxRecDepth 100000 in
theorem fits16_big (p : Option Addr) (n c : Nat) (w : World) (h : (2147483647 : Int) < (n : Int)) :
    Calls Tryz.prog 16 #[.slice p n c] w fun e w' => e = .returned (.bool false) ∧ Kept [] w w' := by
  go_enter Tryz.func16, Tryz.ntmps16
  go_wp2_with fail
  go_ret
  exact ⟨rfl, Kept.refl _ _⟩

/-- a round of whole numbers that came in -/
def InIn (w : World) (v : Value) (l : List Nat) : Prop := (l ≠ [] ∧ SlAt w v (l.map Iw)) ∨ (l = [] ∧ (v = .slice none 0 0 ∨ ∃ a c, v = .slice (some a) 0 c))
theorem InIn.kept {w w' : World} {v : Value} {l : List Nat} {S : List Nat} (h : InIn w v l) (hk : Kept S w w') (hS : ∀ i, i ∈ S → w.heap.size ≤ i) : InIn w' v l := by
  rcases h with ⟨h1, h2⟩ | h
  · exact .inl ⟨h1, h2.kept (hk.mono fun i hi => .inr (hS i hi))⟩
  · exact .inr h
theorem InIn.rd {w : World} {v : Value} {l : List Nat} (h : InIn w v l) : SlRd w v (l.map Iw) := by
  rcases h with ⟨_, h⟩ | ⟨rfl, rfl | ⟨a, c, rfl⟩⟩
  · exact h.read
  · exact ⟨_, _, rfl, fun i u hi => by simp at hi⟩
  · exact ⟨_, _, rfl, fun i u hi => by simp at hi⟩
theorem InIn.form {w : World} {v : Value} {l : List Nat} (h : InIn w v l) : ∃ p c, v = .slice p l.length c := by
  obtain ⟨p, c, e, _⟩ := h.rd
  rw [List.length_map] at e
  exact ⟨p, c, e⟩
/-- rounds of whole numbers, as floats -/
def frs (rs : List (List Nat)) : List (List Nat) := rs.map (List.map fv)
theorem frs_len (rs : List (List Nat)) : (frs rs).length = rs.length := List.length_map _
theorem frs_get (rs : List (List Nat)) (i : Nat) : (frs rs).getD i [] = (rs.getD i []).map fv := by
  unfold frs
  rw [List.getD_eq_getElem?_getD, List.getD_eq_getElem?_getD, List.getElem?_map]
  cases rs[i]? <;> rfl
theorem acc_frs (delta : Bool) (rs : List (List Nat)) (m : Nat) : accL delta (frs rs) m = (accL delta rs m).map fv := by
  unfold accL preL
  rw [frs_get, List.map_append]
  congr 1
  cases delta
  · simp only [Bool.false_eq_true, if_false]
    unfold frs
    rw [← List.map_take, List.map_flatten]
  · simp
/-- the law's state ahead of a round -/
structure Inv7 (w : World) (delta : Bool) (rs : List (List Nat)) (top : Nat) (size scale : Int) (m : Nat) (u9 u10 : Value) (wr : World) : Prop where
  k : Kept [] w wr
  all : ∃ n xs, wr.ownsRow w.heap.size 32 1 u10 n xs ∧ (delta = false → xs = (preL false (frs rs) m).map Fl ∧ n = (preL false (frs rs) m).length)
  rows : ∃ vs, wr.ownsRow w.heap.size 24 1 u9 m vs ∧ ∀ i, i < m → wr.ownsRow 0 23 1 (vs.getD i undef) ((frs rs).getD i []).length (((frs rs).getD i []).map U)
  fine : ∀ i, i < m → ∃ B, Fine top size ((top : Int) - scale).toNat B (accL delta (frs rs) i)
  ok : ∀ i, i < m → ∀ v, v ∈ rs.getD i [] → okI v
theorem Inv7.start (w : World) (delta : Bool) (rs : List (List Nat)) (top : Nat) (size scale : Int) : Inv7 w delta rs top size scale 0 (.slice none 0 0) (.slice none 0 0) w :=
  ⟨Kept.refl _ _, ⟨0, [], World.ownsRow_nil w _ 32 1, fun _ => ⟨by rw [preL_zero]; rfl, by rw [preL_zero]; rfl⟩⟩, ⟨[], World.ownsRow_nil w _ 24 1, fun i h => by omega⟩, fun i h => by omega, fun i h => by omega⟩
theorem Inv7.kept {w wr w' : World} {delta : Bool} {rs : List (List Nat)} {top : Nat} {size scale : Int} {m : Nat} {u9 u10 : Value} (h : Inv7 w delta rs top size scale m u9 u10 wr) (hk : Kept [] wr w') : Inv7 w delta rs top size scale m u9 u10 w' := by
  obtain ⟨n, xs, h1, h2⟩ := h.all
  obtain ⟨vs, h3, h4⟩ := h.rows
  exact ⟨h.k.trans hk, ⟨n, xs, own_keptK h1 hk (by simp), h2⟩, ⟨vs, own_keptK h3 hk (by simp), fun i hi => own_keptK (h4 i hi) hk (by simp)⟩, h.fine, h.ok⟩
/-- the law's state behind the append of a round -/
structure Mid7 (w : World) (delta : Bool) (rs : List (List Nat)) (top : Nat) (size scale : Int) (m : Nat) (u9 u10 : Value) (wr : World) : Prop where
  k : Kept [] w wr
  all : wr.ownsRow w.heap.size 32 1 u10 (accL delta (frs rs) m).length ((accL delta (frs rs) m).map Fl)
  rows : ∃ vs, wr.ownsRow w.heap.size 24 1 u9 m vs ∧ ∀ i, i < m → wr.ownsRow 0 23 1 (vs.getD i undef) ((frs rs).getD i []).length (((frs rs).getD i []).map U)
  fine : ∀ i, i < m → ∃ B, Fine top size ((top : Int) - scale).toNat B (accL delta (frs rs) i)
  ok : ∀ i, i < m → ∀ v, v ∈ rs.getD i [] → okI v
theorem Mid7.kept {w wr w' : World} {delta : Bool} {rs : List (List Nat)} {top : Nat} {size scale : Int} {m : Nat} {u9 u10 : Value} (h : Mid7 w delta rs top size scale m u9 u10 wr) (hk : Kept [] wr w') : Mid7 w delta rs top size scale m u9 u10 w' := by
  obtain ⟨vs, h3, h4⟩ := h.rows
  exact ⟨h.k.trans hk, own_keptK h.all hk (by simp), ⟨vs, own_keptK h3 hk (by simp), fun i hi => own_keptK (h4 i hi) hk (by simp)⟩, h.fine, h.ok⟩
theorem Inv7.mid {w wr w1 : World} {delta : Bool} {rs : List (List Nat)} {top : Nat} {size scale : Int} {m : Nat} {u9 u10 x10 x10' : Value} {n : Nat} {xs : List Value} (h : Inv7 w delta rs top size scale m u9 u10 wr) (hx : wr.ownsRow w.heap.size 32 1 x10 n xs)
    (hg : wr.grownBy w1 x10.ownBlock) (hx' : w1.ownsRow w.heap.size 32 1 x10' (accL delta (frs rs) m).length ((accL delta (frs rs) m).map Fl)) : Mid7 w delta rs top size scale m u9 x10' w1 := by
  obtain ⟨vs, h1, h2⟩ := h.rows
  refine ⟨h.k.trans2 (grownBy_kept hg) (fun i hi => .inr ?_), hx', ⟨vs, grow_own h1 hx (by decide) hg, fun i hi => grow_own (h2 i hi) hx (by decide) hg⟩, h.fine, h.ok⟩
  exact (hx.lt i (by simpa using hi)).1
/-- the round's bits are one row more -/
theorem Mid7.next {w wr w1 : World} {delta : Bool} {rs : List (List Nat)} {top : Nat} {size scale : Int} {m : Nat} {u9 u9' u10 v : Value} {vs : List Value} (h : Mid7 w delta rs top size scale m u9 u10 wr) (hm : m < rs.length)
    (ho : wr.ownsRow w.heap.size 24 1 u9 m vs) (hin : ∀ i, i < m → wr.ownsRow 0 23 1 (vs.getD i undef) ((frs rs).getD i []).length (((frs rs).getD i []).map U))
    (hv : wr.ownsRow 0 23 1 v ((frs rs).getD m []).length (((frs rs).getD m []).map U)) (hg : wr.grownBy w1 u9.ownBlock) (ho' : w1.ownsRow w.heap.size 24 1 u9' (m + 1) (vs ++ [v]))
    (hf : ∃ B, Fine top size ((top : Int) - scale).toNat B (accL delta (frs rs) m)) (hok : ∀ v, v ∈ rs.getD m [] → okI v) : Inv7 w delta rs top size scale (m + 1) u9' u10 w1 := by
  have hvl : vs.length = m := by have := ho.1; omega
  refine ⟨h.k.trans2 (grownBy_kept hg) (fun i hi => .inr (ho.lt i (by simpa using hi)).1), ⟨_, _, grow_own h.all ho (by decide) hg, fun hd => ?_⟩, ⟨_, ho', fun i hi => ?_⟩, fun i hi => ?_, fun i hi => ?_⟩
  · subst hd
    rw [preL_succ (frs rs) m (by rw [frs_len]; exact hm)]
    exact ⟨rfl, rfl⟩
  · rw [getD_snoc, hvl]
    by_cases h : i < m
    · rw [if_pos h]; exact grow_own (hin i h) ho (by decide) hg
    · obtain rfl : i = m := by omega
      rw [if_neg h, if_pos rfl]
      exact grow_own hv ho (by decide) hg
  · by_cases h1 : i < m
    · exact h.fine i h1
    · obtain rfl : i = m := by omega
      exact hf
  · by_cases h1 : i < m
    · exact h.ok i h1
    · obtain rfl : i = m := by omega
      exact hok
end Go.Proofs.YtlpddogcnpokfaaGreat.I
namespace Go.Proofs.YtlpddogcnpokfaaGreat.I
open Go.RowKit Go.Maps
theorem flIn_own {w : World} {base n : Nat} {v : Value} {l : List Nat} (h : w.ownsRow base 32 1 v n (l.map Fl)) : FlIn w v l := by
  by_cases hl : l = []
  · subst hl
    obtain ⟨p, c, rfl⟩ := own_shape h
    have : n = 0 := by have := h.1; simpa using this.symm
    subst this
    right
    refine ⟨rfl, ?_⟩
    rcases h.2 with ⟨h1, _⟩ | ⟨g, cap, cur, h1, _⟩
    · exact .inl h1
    · exact .inr ⟨_, _, h1⟩
  · exact .inl ⟨hl, SlAt.own h⟩
/-- two data points tell the same, the one in whole numbers and the other in floats -/
def Same7 (w : World) (cs cs' : List Value) : Prop :=
  ∃ (h : Bool) (cnt q2 q3 q4 zc : Nat) (p2 p3 p4 sc ps ns : Int) (va va' vb vb' : Value) (xs ys : List Nat),
    cs = [.bool h, U cnt, .int .u64 p2, .int .u64 p3, .int .u64 p4, .int .i32 sc, U zc, .int .i32 ps, va, .int .i32 ns, vb] ∧ cs' = [.bool h, U cnt, U q2, U q3, U q4, .int .i32 sc, U zc, .int .i32 ps, va', .int .i32 ns, vb'] ∧
    (h = true → (FloatKind.f64.format.order (floatOfInt .f64 (IntKind.i64.wrap p2)) q2 == some .eq) = true ∧ (FloatKind.f64.format.order (floatOfInt .f64 (IntKind.i64.wrap p3)) q3 == some .eq) = true ∧ (FloatKind.f64.format.order (floatOfInt .f64 (IntKind.i64.wrap p4)) q4 == some .eq) = true) ∧
    SlAt w va (xs.map U) ∧ SlAt w va' (xs.map U) ∧ SlAt w vb (ys.map U) ∧ SlAt w vb' (ys.map U) ∧ xs.length ≤ 1000 ∧ ys.length ≤ 1000
theorem same7_of {w : World} {l : List Nat} {top B : Nat} {size scale : Int} {cs cs' : List Value} (hs : 1 ≤ size) (hs2 : size ≤ 200) (ht : top ≤ 20) (hS : scale ≤ top) (hl : l.length ≤ 1000) (hv : ∀ v, v ∈ l → okI v)
    (hF : Fine top size ((top : Int) - scale).toNat B (l.map fv)) (hx : ExIs w [] top size scale l cs) (hy : Go.Proofs.YtlpddogcnpokfaaGreat.ExIs w [] top size scale (l.map fv) cs') : Same7 w cs cs' := by
  rcases hx with ⟨rfl, rfl⟩ | ⟨hne, r, mn, mx, va, vb, hmm, hsum, rfl, ha, hb⟩
  · rcases hy with ⟨_, rfl⟩ | ⟨h, _⟩
    · exact ⟨false, 0, 0, 0, 0, 0, 0, 0, 0, 0, 0, 0, _, _, _, _, [], [], rfl, rfl, fun h => (by cases h), .inl ⟨rfl, rfl⟩, .inl ⟨rfl, rfl⟩, .inl ⟨rfl, rfl⟩, .inl ⟨rfl, rfl⟩, by decide, by decide⟩
    · exact absurd rfl h
  · rcases hy with ⟨h, _⟩ | ⟨_, r', mn', mx', va', vb', hmm', hsum', rfl, ha', hb'⟩
    · exact absurd (List.map_eq_nil_iff.1 h) hne
    · obtain ⟨hlim, _, hcnt⟩ := hF.lim hs hs2 ht hS (by rw [List.length_map]; omega)
      obtain ⟨okn, okx, rfl, rfl⟩ := mms hv hmm hmm'
      obtain ⟨hr, hr'⟩ := sums hv hl hsum hsum'
      have e : IntKind.i64.wrap (IntKind.u64.wrap r) = r := by rw [IntKind.wrap_i64, IntKind.wrap_u64]; omega
      have p1 := hlim.pl
      have p2 := hlim.nl
      refine ⟨true, _, _, _, _, _, _, _, _, _, _, _, _, _, _, _, _, _, rfl, rfl, fun _ => ⟨?_, ?_, ?_⟩, SlAt.own ha.1, SlAt.own ha'.1, SlAt.own hb.1, SlAt.own hb'.1, by omega, by omega⟩
      · rw [e, show (FloatKind.f64.format.order (floatOfInt .f64 r) r' == some Ordering.eq) = decide (_ = _) from Lg.order_eq (Lg.foi_is r hr) hr']
        simp
      · rw [sgn_load]; exact fv_self okn
      · rw [sgn_load]; exact fv_self okx
theorem Same7.kept {w w' : World} {cs cs' : List Value} (h : Same7 w cs cs') (hk : Kept [] w w') : Same7 w' cs cs' := by
  obtain ⟨h, cnt, q2, q3, q4, zc, p2, p3, p4, sc, ps, ns, va, va', vb, vb', xs, ys, rfl, rfl, h1, h2, h3, h4, h5, h6⟩ := h
  exact ⟨h, cnt, q2, q3, q4, zc, p2, p3, p4, sc, ps, ns, va, va', vb, vb', xs, ys, rfl, rfl, h1, h2.kept hk, h3.kept hk, h4.kept hk, h5.kept hk, h6⟩
theorem i64_64 (a : Int) : IntKind.i64.wrap a = wrap64 a := by
  unfold wrap64
  rw [IntKind.wrap_i64]
theorem set3_other (w : World) (P : Nat) (x2 x3 x4 : Value) (B i : Nat) (h : B ≠ P ∨ (i ≠ 2 ∧ i ≠ 3 ∧ i ≠ 4)) : ((((w.setCell ⟨P, 2, none⟩ x2).setCell ⟨P, 3, none⟩ x3).setCell ⟨P, 4, none⟩ x4).drew).cell? ⟨B, i, none⟩ = w.cell? ⟨B, i, none⟩ := by
  show (((w.setCell ⟨P, 2, none⟩ x2).setCell ⟨P, 3, none⟩ x3).setCell ⟨P, 4, none⟩ x4).cell? ⟨B, i, none⟩ = _
  rw [World.cell?_setCell_other _ _ _ _ (fun e => by injection e with e1 e2; omega), World.cell?_setCell_other _ _ _ _ (fun e => by injection e with e1 e2; omega), World.cell?_setCell_other _ _ _ _ (fun e => by injection e with e1 e2; omega)]
theorem frozenOf7 {w : World} {g i : Nat} {cs : Array Value} {t : TypeId} (h : w.heap[g]? = some (.cells cs t (0, 0))) : w.frozen? ⟨g, i, none⟩ = false := by
  unfold World.frozen?
  simp [h]
theorem cell_one_new2 (w : World) (x y : Value) (t : TypeId) : ∀ (j : Nat) (u : Value), #[x, y][j]? = some u → (w.alloc (.cells #[x, y] t)).cell? ⟨w.heap.size, j, none⟩ = some u := fun _ _ hj => cellOf (MapKept.heap_alloc w _).1 hj
set_option maxHeartbeats 4000000 in
set_option maxRecDepth 100000 in
theorem expo7 (delta : Bool) (size scale : Int) (rs : List (List Nat)) (rv : List Value) (V : Value) (w : World) (hV : SlAt w V rv) (hlen : rv.length = rs.length) (hin : ∀ i, i < rs.length → InIn w (rv.getD i undef) (rs.getD i []))
    (hlt : ∀ i, i < rs.length → ∀ v, v ∈ rs.getD i [] → v < 18446744073709551616) (hcap : ∀ i, i < rs.length → (rs.getD i []).length ≤ maxLen) : Calls Tryz.prog 7 #[.bool delta, .int .i32 size, .int .i32 scale, V] w (LawT w) := by
  obtain ⟨p, c, rfl, hp⟩ := hV.read
  rw [hlen]
  by_cases hbig : (2147483647 : Int) < (rs.length : Int)
  · have F := Lib.hid (fun w' => fits16_big p rs.length c w' hbig)
    clear hp hin hlt hcap hV hbig
    go_enter Tryz.func7, Tryz.ntmps7
    go_wp2_with fail
    refine (F.out _).mono ?_; rintro e w1 ⟨rfl, hk⟩
    have HK := Lib.hid hk
    clear hk
    go_wp2_with fail
    go_ret
    exact ⟨rfl, HK.out⟩
  have hns : ∀ (i n : Nat), (rs.map List.length)[i]? = some n → i < rs.length ∧ n = (rs.getD i []).length := fun i n h => by
    have hi := (List.getElem?_eq_some_iff.1 h).1
    rw [List.length_map] at hi
    refine ⟨hi, ?_⟩
    rw [List.getElem?_map, List.getElem?_eq_getElem hi] at h
    rw [List.getD_eq_getElem?_getD, List.getElem?_eq_getElem hi]
    simpa using h.symm
  have hrs : ∀ (i n : Nat), (rs.map List.length)[i]? = some n → ∃ (p : Option Addr) (c : Nat), rv[i]? = some (Value.slice p n c) := fun i n h => by
    obtain ⟨hi, rfl⟩ := hns i n h
    obtain ⟨p', c', e⟩ := (hin i hi).form
    refine ⟨p', c', ?_⟩
    rw [← e, List.getD_eq_getElem?_getD, List.getElem?_eq_getElem (by omega)]; rfl
  have hmem : ∀ n, n ∈ rs.map List.length → ∃ i, i < rs.length ∧ n = (rs.getD i []).length := fun n hn => by
    obtain ⟨i, hi⟩ := List.getElem?_of_mem hn
    exact ⟨i, hns i n hi⟩
  have hmax : ∀ n, n ∈ rs.map List.length → n ≤ maxLen := fun n hn => by obtain ⟨i, hi, rfl⟩ := hmem n hn; exact hcap i hi
  have F16 := fun w' (hk : Kept [] w w') => fits16 rv (rs.map List.length) (.slice p rv.length c) w' (hV.kept hk) (by simp [hlen]) hrs (by simp; omega) hmax
  have F18 := fun w' (hk : Kept [] w w') => few18 rv (rs.map List.length) (.slice p rv.length c) w' (hV.kept hk) (by simp [hlen]) hrs (by simp; omega) hmax
  rw [hlen] at F16 F18
  replace F16 := Lib.hid F16
  replace F18 := Lib.hid F18
  by_cases hfit : ∀ n, n ∈ rs.map List.length → n ≤ 2147483647
  case neg =>
    rw [decide_eq_false hfit] at F16
    clear hp hin hlt hcap hV hbig hns hrs hmem hmax hfit F18
    go_enter Tryz.func7, Tryz.ntmps7
    go_wp2_with fail
    refine (F16.out _ (Kept.refl _ _)).mono ?_; rintro e w1 ⟨rfl, hk⟩
    have HK := Lib.hid hk
    clear hk F16
    go_wp2_with fail
    go_ret
    exact ⟨rfl, HK.out⟩
  rw [decide_eq_true hfit] at F16
  by_cases hr : 1 ≤ size ∧ size ≤ 200 ∧ -10 ≤ scale ∧ scale ≤ 20
  case neg =>
    have HQ := Lib.hid (decide_eq_false hr)
    clear hp hin hlt hcap hV hbig hns hrs hmem hmax hfit F18 hr
    go_enter Tryz.func7, Tryz.ntmps7
    go_wp2_with fail
    refine (F16.out _ (Kept.refl _ _)).mono ?_; rintro e w1 ⟨rfl, hk⟩
    have HK := Lib.hid hk
    clear hk F16
    go_wp2_with fail
    refine (right17 _ _ _).mono ?_; rintro e w2 ⟨rfl, hk⟩
    rw [HQ.out]
    have HK2 := Lib.hid (HK.out.trans hk)
    clear hk
    go_wp2_with fail
    refine (awake _).mono ?_; rintro e w3 ⟨rfl, hk⟩
    have HK3 := Lib.hid (HK2.out.trans hk)
    clear hk
    go_wp2_with fail
    go_ret
    exact ⟨rfl, HK3.out⟩
  have HQ := Lib.hid (decide_eq_true hr)
  by_cases hfew : (∀ n, n ∈ rs.map List.length → n ≤ 60) ∧ (rs.map List.length).length ≤ 6
  case neg =>
    rw [decide_eq_false hfew] at F18
    clear hp hin hlt hcap hV hbig hns hrs hmem hmax hfit hr hfew
    go_enter Tryz.func7, Tryz.ntmps7
    go_wp2_with fail
    refine (F16.out _ (Kept.refl _ _)).mono ?_; rintro e w1 ⟨rfl, hk⟩
    have HK := Lib.hid hk
    clear hk F16
    go_wp2_with fail
    refine (right17 _ _ _).mono ?_; rintro e w2 ⟨rfl, hk⟩
    rw [HQ.out]
    have HK2 := Lib.hid (HK.out.trans hk)
    clear hk
    go_wp2_with fail
    refine (F18.out _ HK2.out).mono ?_; rintro e w3 ⟨rfl, hk⟩
    have HK3 := Lib.hid (HK2.out.trans hk)
    clear hk
    go_wp2_with fail
    refine (awake _).mono ?_; rintro e w4 ⟨rfl, hk⟩
    have HK4 := Lib.hid (HK3.out.trans hk)
    clear hk
    go_wp2_with fail
    go_ret
    exact ⟨rfl, HK4.out⟩
  rw [decide_eq_true hfew] at F18
  have h6 : rs.length ≤ 6 := by simpa using hfew.2
  have h60 : ∀ i, i < rs.length → (rs.getD i []).length ≤ 60 := fun i hi => hfew.1 _ (by
    rw [List.getD_eq_getElem?_getD, List.getElem?_eq_getElem hi]; exact List.mem_map_of_mem (List.getElem_mem hi))
  have ht : ((topOf scale : Nat) : Int) = max scale 0 := by unfold topOf; omega
  have HR := Lib.hid (And.intro hr (And.intro h6 (And.intro h60 ht)))
  have HIN := Lib.hid (And.intro hin (And.intro hlt (And.intro hp (And.intro hlen hV))))
  clear hp hin hlt hcap hV hbig hns hrs hmem hmax hfit hr hfew h6 h60 ht
  go_enter Tryz.func7, Tryz.ntmps7
  go_wp2_with fail
  refine (F16.out _ (Kept.refl _ _)).mono ?_; rintro e w1 ⟨rfl, hk⟩
  have HK := Lib.hid hk
  clear hk F16
  go_wp2_with fail
  refine (right17 _ _ _).mono ?_; rintro e w2 ⟨rfl, hk⟩
  rw [HQ.out]
  have HK2 := Lib.hid (HK.out.trans hk)
  clear hk HK
  go_wp2_with fail
  refine (F18.out _ HK2.out).mono ?_; rintro e w3 ⟨rfl, hk⟩
  have HK3 := Lib.hid (HK2.out.trans hk)
  clear hk F18 HK2
  go_wp2_with fail
  go_loopw [9, 10, 40] (fun u9 u10 i wr => ∃ m : Nat, m ≤ rs.length ∧ i = .int .i64 (m : Int) ∧ Inv7 w3 delta rs (topOf scale) size scale m u9 u10 wr) (fun _ _ i _ => rs.length - (intOf i).toNat)
  case atStart => exact ⟨0, Nat.zero_le _, rfl, Inv7.start w3 delta rs (topOf scale) size scale⟩
  case round =>
  obtain ⟨m, hm, rfl, inv⟩ := hrel
  have INV := Lib.hid inv
  have HM := Lib.hid hm
  clear inv hm
  by_cases hmlt : m < rs.length
  · obtain ⟨l, hl⟩ : ∃ l, l = rs.getD m [] := ⟨_, rfl⟩
    obtain ⟨lv, hlv⟩ : ∃ lv, lv = rv.getD m undef := ⟨_, rfl⟩
    have hlm : rv[m]? = some lv := by rw [hlv, List.getD_eq_getElem?_getD, List.getElem?_eq_getElem (by have := HIN.out.2.2.2.1; omega)]; rfl
    have hfl : InIn w lv l := by rw [hlv, hl]; exact HIN.out.1 m hmlt
    obtain ⟨p1, c1, hform⟩ := hfl.form
    obtain ⟨a1, rfl, hcx⟩ := HIN.out.2.2.1 m _ hlm
    have hcell : wr.cell? (a1.add m) = some (.slice p1 l.length c1) := hform ▸ (cellKept (HK3.out.trans INV.out.k) (cell_lt hcx) (by simp)).trans hcx
    have HL := Lib.hid (And.intro hl (And.intro hform (And.intro (hfl.kept (HK3.out.trans INV.out.k) (by simp)) hlv)))
    have w7 : (m : Int) < (rs.length : Int) := by omega
    have w1' : IntKind.i64.wrap ((m : Int) + 1) = (m : Int) + 1 := IntWalk.i64_in _ (by have := HR.out.2.1; omega)
    have HLT := Lib.hid hmlt
    have HL60 := Lib.hid (show l.length ≤ 60 by rw [hl]; exact HR.out.2.2.1 m hmlt)
    have HLB := Lib.hid (show ∀ v, v ∈ l → v < 18446744073709551616 by rw [hl]; exact HIN.out.2.1 m hmlt)
    clear hl hlv hlm hfl hform hcx hmlt
    obtain ⟨i0, hi, hz0, hz1, hz2⟩ := info32
    have HI := Lib.hid (And.intro hi (And.intro hz0 (And.intro hz1 hz2)))
    clear hi hz0 hz1 hz2
    go_wp2_with fail
    clear hcell
    obtain ⟨wA, hwA⟩ : ∃ x, x = wr := ⟨_, rfl⟩
    subst hwA
    go_loopw [13, 46] (fun o j wq => ∃ k : Nat, k ≤ l.length ∧ j = .int .i64 (k : Int) ∧ Kept [] wA wq ∧ wq.ownsRow wA.heap.size 32 1 o k (((l.take k).map fv).map Fl) ∧ ∀ v, v ∈ l.take k → okI v) (fun _ j _ => l.length - (intOf j).toNat)
    case atStart => exact ⟨0, Nat.zero_le _, rfl, Kept.refl _ _, ⟨rfl, .inl ⟨rfl, rfl⟩⟩, fun v hv => by simp at hv⟩
    case round =>
    obtain ⟨k, hk, rfl, hkp, hown, hok⟩ := hrel
    by_cases hkl : k < l.length
    · obtain ⟨x, hx⟩ : ∃ x, x = l.getD k 0 := ⟨_, rfl⟩
      have hlk : (l.map Iw)[k]? = some (Iw x) := by rw [List.getElem?_map, List.getElem?_eq_getElem hkl, hx, List.getD_eq_getElem?_getD, List.getElem?_eq_getElem hkl]; rfl
      obtain ⟨p', c', h1, h5⟩ := HL.out.2.2.1.rd
      obtain ⟨a2, e2, hcx⟩ := h5 k _ hlk
      have e1 : p1 = some a2 := by
        have := HL.out.2.1
        rw [this] at h1
        injection h1 with h1 _ _
        exact h1.trans e2
      subst e1
      clear h1 h5 e2
      have hcell : wr.cell? (a2.add k) = some (.int .i64 (sgn x)) := (cellKept hkp (cell_lt hcx) (by simp)).trans hcx
      have hnext : ((l.take k).map fv).map Fl ++ [.float .f64 (floatOfInt .f64 (sgn x))] = ((l.take (k + 1)).map fv).map Fl := by
        rw [List.take_succ_eq_append_getElem hkl, List.map_append, List.map_append, hx, List.getD_eq_getElem?_getD, List.getElem?_eq_getElem hkl]; rfl
      have hxm : l.take (k + 1) = l.take k ++ [x] := by
        rw [List.take_succ_eq_append_getElem hkl, hx, List.getD_eq_getElem?_getD, List.getElem?_eq_getElem hkl]; rfl
      have hxl : x ∈ l := List.mem_of_mem_take (i := k + 1) (by rw [hxm]; simp)
      have HN := Lib.hid (And.intro hnext (And.intro hxm hxl))
      have HKP := Lib.hid hkp
      have HO := Lib.hid hown
      have HOK := Lib.hid hok
      clear hx hlk hnext hkp hown hcx hok hxm hxl
      have w8 : (k : Int) < (l.length : Int) := by omega
      have w9 : IntKind.i64.wrap ((k : Int) + 1) = (k : Int) + 1 := IntWalk.i64_in _ (by have := HL60.out; omega)
      have HKL := Lib.hid hkl
      clear hkl
      by_cases hlo : sgn x < -1099511627776
      · go_wp2_with fail
        refine (awake _).mono ?_; rintro e w5 ⟨rfl, hk5⟩
        have HK5 := Lib.hid ((HK3.out.trans (INV.out.k.trans HKP.out)).trans hk5)
        clear hk5
        go_wp2_with fail
        go_ret
        exact ⟨rfl, HK5.out⟩
      · by_cases hhi : 1099511627776 < sgn x
        · go_wp2_with fail
          refine (awake _).mono ?_; rintro e w5 ⟨rfl, hk5⟩
          have HK5 := Lib.hid ((HK3.out.trans (INV.out.k.trans HKP.out)).trans hk5)
          clear hk5
          go_wp2_with fail
          go_ret
          exact ⟨rfl, HK5.out⟩
        · have HX := Lib.hid (show okI x from ⟨HLB.out x HN.out.2.2, by omega, by omega⟩)
          go_wp2_with (at_builtin; refine wpList_append_own_at _ rfl _ _ 22 rfl wA.heap.size 32 i0 (.float .f64 0) 1 8 Tryz.underlying22 HI.out.1 HI.out.2.1 HI.out.2.2.1 HI.out.2.2.2 rfl (by decide) _ _ _ rfl (HO.out.alloc _) ⟨wr.heap.size, 0, none⟩ 1 1 [.float .f64 (floatOfInt .f64 (sgn x))] rfl rfl (cell_one_new _ _ _) (fun u hu => by simp at hu; subst hu; rfl) (by have := HL60.out; have := HKL.out; unfold maxLen; omega) (by have := HL60.out; have := HKL.out; omega) (by have := HKP.out.size; simp; omega) ?_; intro v' wn hown' hgrow hnil hat)
          go_roundw
          case rel => exact ⟨k + 1, by have := HKL.out; omega, by go_num, own_kept HKP.out HO.out hgrow, by rw [← HN.out.1]; exact hown', fun v hv => by
            rw [HN.out.2.1] at hv
            rcases List.mem_append.1 hv with h | h
            · exact HOK.out v h
            · simp at h; subst h; exact HX.out⟩
          case measure => simp [intOf]; have := HKL.out; omega
    · obtain rfl : k = l.length := by omega
      rw [List.take_length] at hown hok
      have hji : ¬ (l.length : Int) < (l.length : Int) := by omega
      obtain ⟨ad13, cap13, rfl⟩ := own_shape hown
      obtain ⟨hacc1, hacc2, htot⟩ := acc_len (delta := delta) HR.out.2.1 HR.out.2.2.1 HLT.out
      have hacl : accL delta (frs rs) m = preL delta (frs rs) m ++ l.map fv := by unfold accL; rw [frs_get, HL.out.1]
      have hal : (accL delta (frs rs) m).length ≤ 1000 := by rw [acc_frs, List.length_map]; exact hacc1
      have HACC := Lib.hid (And.intro hacl hal)
      have HKP := Lib.hid hkp
      have HO := Lib.hid hown
      have HOK := Lib.hid hok
      clear hkp hown hok hkl hk hacc1 hacc2 htot hacl hal
      go_upto_if 63 with fail
      go_cut [10] from 63 to 63 (fun x wc => wc = wr ∧ wA.ownsRow w3.heap.size 32 1 x (preL delta (frs rs) m).length ((preL delta (frs rs) m).map Fl))
      case first =>
        cases delta
        · go_wp2_with fail
          go_meet
          refine ⟨rfl, ?_⟩
          obtain ⟨n, xs, h1, h2⟩ := INV.out.all
          obtain ⟨rfl, rfl⟩ := h2 rfl
          exact h1
        · go_wp2_with fail
          go_meet
          exact ⟨rfl, World.ownsRow_nil wA _ 32 1⟩
      case rest =>
      obtain ⟨hwc, hown⟩ := hcut
      replace hwc := hwc.symm
      subst hwc
      have HO9 := Lib.hid (own_keptK hown HKP.out (by simp))
      have HXX := Lib.hid hown
      have HLL := Lib.hid (show (preL delta (frs rs) m).length + (l.map fv).length ≤ 1000 by have := HACC.out.2; rw [HACC.out.1, List.length_append] at this; exact this)
      have HB := Lib.hid (INV.out.k.trans HKP.out).size
      have HF := Lib.hid (flIn_own HO.out)
      clear hown
      go_wp2_with (at_builtin; refine wpList_append_in rfl _ _ rfl w3.heap.size _ _ _ rfl HO9.out (.slice ad13 l.length cap13) (l.map fv) rfl HF.out HLL.out HB.out ?_; intro v10 wn hown' hgrow)
      replace hgrow : wr.grownBy wn u10.ownBlock := hgrow
      have hmid : Mid7 w3 delta rs (topOf scale) size scale m u9 v10 wn := (INV.out.kept HKP.out).mid HO9.out hgrow (by rw [HACC.out.1, List.length_append, List.map_append]; exact hown')
      have hof : wn.ownsRow wA.heap.size 32 1 (.slice ad13 l.length cap13) l.length ((l.map fv).map Fl) := own_keptK HO.out (grownBy_kept hgrow) (fun z hz hm => by
        have h1 := (HO.out.lt z hz).1
        have h2 := (HXX.out.lt z (by simpa using hm)).2
        omega)
      have MID := Lib.hid hmid
      have HOF := Lib.hid hof
      clear hgrow hown' hmid hof INV HKP HO HF HXX HB HLL HO9
      refine (point19_all (accL delta (frs rs) m) _ (topOf scale) size scale v10 _ wn rfl MID.out.all (fun v hv => by rw [acc_frs] at hv; obtain ⟨u, _, rfl⟩ := List.mem_map.1 hv; exact fv_lt u) HACC.out.2 HR.out.1.1 HR.out.1.2.1 HR.out.1.2.2.1 HR.out.1.2.2.2 HR.out.2.2.2).mono ?_
      rintro e w4 ⟨cs, op, rfl, hk4, h11, hone, href⟩
      have H43 := Lib.hid (MapKept.heap_alloc w4 (.cells exZero.toArray 43)).1
      have hone' : cs.toArray.all (·.oneCell') = true := Array.all_eq_true_iff_forall_mem.2 (fun v hv => hone v (by simpa using hv))
      have HC := Lib.hid (And.intro h11 (And.intro hone' (show exZero.toArray.size = cs.toArray.size from by rw [List.size_toArray, List.size_toArray, h11]; rfl)))
      have HREF := Lib.hid href
      have HK4 := Lib.hid (show Kept [] wn w4 from hk4)
      clear hk4 h11 hone href hone'
      cases op
      · have HFN := Lib.hid ((HREF.out rfl).fine (by have := HR.out; omega) HR.out.1.2.2.1 HR.out.2.2.2)
        go_wp2_with (refine wpList_store_row rfl 43 _ _ rfl w4.heap.size cs.toArray rfl rfl 43 exZero.toArray H43.out (sz43 HC.out.1) HC.out.2.2 HC.out.2.1 ?_)
        generalize hW0 : World.setRow _ w4.heap.size cs.toArray = W0
        have hk40 : Kept [] w4 W0 := by rw [← hW0]; exact setRow_kept ((Kept.refl _ _).alloc _) (.inr (Nat.le_refl _))
        have HK0 := Lib.hid (HK4.out.trans hk40)
        clear hW0 hk40
        refine (bits20_in _ (l.map fv) W0 (flIn_own (own_keptK HOF.out HK0.out (by simp))) (by rw [List.length_map]; have := HL60.out; omega)).mono ?_
        rintro e w5 ⟨v5, rfl, ho5, hk5⟩
        rw [List.length_map] at ho5
        obtain ⟨ad5, cap5, rfl⟩ := own_shape ho5
        have HM5 := Lib.hid ((MID.out.kept HK0.out).kept hk5)
        obtain ⟨vs, ho9, hin⟩ := HM5.out.rows
        have HV := Lib.hid (And.intro ho9 (And.intro hin ho5))
        obtain ⟨i24, hi24⟩ := info24
        have I24 := Lib.hid hi24
        clear ho9 hin ho5 hi24 hk5 MID HOF HK0 HK4 HREF HC H43
        go_wp2_with (at_builtin; refine wpList_append_own_at _ rfl _ _ 30 rfl w3.heap.size 24 i24 (.slice none 0 0) 1 24 Tryz.underlying30 I24.out.1 I24.out.2.1 I24.out.2.2.1 I24.out.2.2.2 rfl (by decide) _ _ _ rfl (HV.out.1.alloc _) ⟨w5.heap.size, 0, none⟩ 1 1 [.slice ad5 l.length cap5] rfl rfl (cell_one_new _ _ _) (fun u hu => by simp at hu; subst hu; rfl) (by have := HR.out.2.1; have := HLT.out; unfold maxLen; omega) (by have := HR.out.2.1; have := HLT.out; omega) (by have := HM5.out.k.size; simp; omega) ?_; intro v9' wn' ho9' hg9 hnil9 hat9)
        go_roundw
        case rel =>
          refine ⟨m + 1, by have := HLT.out; omega, by go_num, (HM5.out.kept ((Kept.refl _ _).alloc _)).next HLT.out (HV.out.1.alloc _) (fun i hi => (HV.out.2.1 i hi).alloc _) ?_ hg9 ho9' HFN.out (by rw [← HL.out.1]; exact HOK.out)⟩
          rw [frs_get, ← HL.out.1, List.length_map]
          exact own_mono0 (HV.out.2.2.alloc _)
        case measure => simp [intOf]; have := HLT.out; omega
      · go_wp2_with (refine wpList_store_row rfl 43 _ _ rfl w4.heap.size cs.toArray rfl rfl 43 exZero.toArray H43.out (sz43 HC.out.1) HC.out.2.2 HC.out.2.1 ?_)
        refine (awake _).mono ?_; rintro e w5 ⟨rfl, hk⟩
        have HK5 := Lib.hid ((HK3.out.trans (MID.out.k.trans (HK4.out.trans (setRow_kept ((Kept.refl _ _).alloc _) (.inr (Nat.le_refl _)))))).trans hk)
        clear hk
        go_wp2_with fail
        go_ret
        exact ⟨rfl, HK5.out⟩
  · have hml : m = rs.length := by have := HM.out; omega
    subst hml
    obtain ⟨vs, o9, hin⟩ := INV.out.rows
    obtain ⟨wB, hwB⟩ : ∃ x, x = wr := ⟨_, rfl⟩
    subst hwB
    have hvl : vs.length = rs.length := by have := o9.1; omega
    obtain ⟨ad9, cap9, rfl⟩ := own_shape o9
    have hS : scale ≤ topOf scale := by have := HR.out; omega
    have ht20 : topOf scale ≤ 20 := by have := HR.out; omega
    have htot : rs.flatten.length ≤ 500 := by
      by_cases h0 : rs.length = 0
      · rw [List.length_eq_zero_iff.1 h0]; decide
      · exact (acc_len (delta := delta) HR.out.2.1 HR.out.2.2.1 (m := 0) (by omega)).2.2
    have htotf : (frs rs).flatten.length ≤ 500 := by unfold frs; rw [← List.map_flatten, List.length_map]; exact htot
    have h500 : rs.length ≤ 500 := by have := HR.out.2.1; omega
    have F21 := Lib.hid (ints21 delta (topOf scale) size scale rs (.slice p rs.length c) rv wB (by have h := HIN.out.2.2.2.2; rw [HIN.out.2.2.2.1] at h; exact h.kept (HK3.out.trans INV.out.k)) HIN.out.2.2.2.1
      (fun i hi => ((HIN.out.1 i hi).kept (HK3.out.trans INV.out.k) (by simp)).rd) (fun i hi => by rw [← acc_frs]; exact INV.out.fine i hi) INV.out.ok h500 htot HR.out.1.1 HR.out.1.2.1 ht20 hS HR.out.1.2.2.1 over71)
    have F22 := Lib.hid (fun w' (hk : Kept [] wB w') => floats22_all delta (topOf scale) size scale (frs rs) (.slice ad9 rs.length cap9) vs w' (SlAt.own (own_keptK o9 hk (by simp))) (by rw [frs_len]; exact hvl)
      (fun i hi => SlAt.own (own_keptK (hin i (by rw [← frs_len]; exact hi)) hk (by simp))) (fun i hi => INV.out.fine i (by rw [← frs_len]; exact hi)) (by rw [frs_len]; exact h500) htotf HR.out.1.1 HR.out.1.2.1 ht20 hS HR.out.1.2.2.1)
    have HS := Lib.hid (And.intro hS ht20)
    have hji : ¬ (rs.length : Int) < (rs.length : Int) := by omega
    have hne : ((rs.length : Int) != (rs.length : Int)) = false := by simp
    clear o9 hin hvl hS ht20 htot htotf h500 hmlt
    go_wp2_with fail
    refine F21.out.mono ?_
    rintro e w5 ⟨V5, es5, rfl, hres5, hk5⟩
    obtain ⟨ad5, cap5, rfl⟩ := own_shape hres5.own.1
    have H5 := Lib.hid (And.intro hres5 hk5)
    clear hres5 hk5
    go_wp2_with fail
    refine (F22.out w5 H5.out.2).mono ?_
    rintro e w6 ⟨V6, es6, rfl, hres6, hk6⟩
    rw [frs_len] at hres6
    obtain ⟨ad6, cap6, rfl⟩ := own_shape hres6.own.1
    have H5' := Lib.hid (H5.out.1.kept hk6 (by simp))
    have H6 := Lib.hid (And.intro hres6 (H5.out.2.trans hk6))
    clear hres6 hk6 H5
    go_wp2_with fail
    go_loopw [106] (fun i wq => ∃ m : Nat, m ≤ rs.length ∧ i = .int .i64 (m : Int) ∧ Kept [] w6 wq) (fun i _ => rs.length - (intOf i).toNat)
    case atStart => exact ⟨0, Nat.zero_le _, rfl, Kept.refl _ _⟩
    case round =>
    obtain ⟨m, hm, rfl, hkx⟩ := hrel
    have HX := Lib.hid (And.intro hm hkx)
    clear hm hkx
    by_cases hmlt : m < rs.length
    · obtain ⟨g5, cap5', e5⟩ := own_form H5'.out.own.1 (by omega)
      injection e5 with e5 _ e5'
      subst e5 e5'
      obtain ⟨g6, cap6', e6⟩ := own_form H6.out.1.own.1 (by omega)
      injection e6 with e6 _ e6'
      subst e6 e6'
      have w7 : (m : Int) < (rs.length : Int) := by omega
      have w1' : IntKind.i64.wrap ((m : Int) + 1) = (m : Int) + 1 := IntWalk.i64_in _ (by have := HR.out.2.1; omega)
      obtain ⟨hal, hax⟩ := H5'.out.el m hmlt
      obtain ⟨hbl, hbx⟩ := H6.out.1.el m hmlt
      have hacc := (acc_len (delta := delta) HR.out.2.1 HR.out.2.2.1 hmlt).1
      obtain ⟨B, hB⟩ := INV.out.fine m hmlt
      rw [acc_frs] at hB hbx
      have hokm : ∀ v, v ∈ accL delta rs m → okI v := fun v hv => by
        obtain ⟨i, hi, h⟩ := acc_mem hmlt hv
        exact INV.out.ok i hi v h
      have hsame := same7_of HR.out.1.1 HR.out.1.2.1 HS.out.2 HS.out.1 hacc hokm hB hax hbx
      have rA : w6.rangeAt g5 (m * 11) (es5.getD m []) := own_row H5'.out.own.1 (fun i hi => (H5'.out.el i (by rw [← H5'.out.len]; exact hi)).1) (by rw [H5'.out.len]; exact hmlt)
      have rB : w6.rangeAt g6 (m * 11) (es6.getD m []) := own_row H6.out.1.own.1 (fun i hi => (H6.out.1.el i (by rw [← H6.out.1.len]; exact hi)).1) (by rw [H6.out.1.len]; exact hmlt)
      obtain ⟨h, cnt, q2, q3, q4, zc, p2, p3, p4, sc, ps, ns, va, va', vb, vb', xs, ys, ea, eb, hq, s1, s2, s3, s4, l1, l2⟩ := hsame
      rw [ea] at rA
      rw [eb] at rB
      obtain ⟨pa, ca, e1, _⟩ := s1.read
      obtain ⟨pa', ca', e2, _⟩ := s2.read
      obtain ⟨pb, cb, e3, _⟩ := s3.read
      obtain ⟨pb', cb', e4, _⟩ := s4.read
      rw [List.length_map] at e1 e2 e3 e4
      subst e1 e2 e3 e4
      have F1 := Lib.hid (fun (w' : World) (hk : Kept [] w6 w') => (equal13 xs xs _ _ w' (s1.kept hk) (s2.kept hk) (by omega)).mono (fun e w2 h => (show e = .returned (.bool true) ∧ Kept [] w' w2 from ⟨h.1.trans (by simp), h.2⟩)))
      have F2 := Lib.hid (fun (w' : World) (hk : Kept [] w6 w') => (equal13 ys ys _ _ w' (s3.kept hk) (s4.kept hk) (by omega)).mono (fun e w2 h => (show e = .returned (.bool true) ∧ Kept [] w' w2 from ⟨h.1.trans (by simp), h.2⟩)))
      have HQ7 := Lib.hid hq
      have ka : ∀ j u, [Value.bool h, U cnt, .int .u64 p2, .int .u64 p3, .int .u64 p4, .int .i32 sc, U zc, .int .i32 ps, .slice pa xs.length ca, .int .i32 ns, .slice pb ys.length cb][j]? = some u → wr.cell? ⟨g5, m * 11 + j, none⟩ = some u := fun j u hj => (cellKept HX.out.2 (cell_lt (rA j u hj)) (by simp)).trans (rA j u hj)
      have RB := Lib.hid (show ∀ w', Kept [] w6 w' → ∀ j u, [Value.bool h, U cnt, U q2, U q3, U q4, .int .i32 sc, U zc, .int .i32 ps, .slice pa' xs.length ca', .int .i32 ns, .slice pb' ys.length cb'][j]? = some u → w'.cell? ⟨g6, m * 11 + j, none⟩ = some u from fun w' hk j u hj => (cellKept hk (cell_lt (rB j u hj)) (by simp)).trans (rB j u hj))
      have y0 : wr.cell? ⟨g5, m * 11, none⟩ = some (.bool h) := ka 0 _ rfl
      have y1 : wr.cell? ⟨g5, m * 11 + 1, none⟩ = some (.int .u64 (cnt : Int)) := ka 1 _ rfl
      have y2 : wr.cell? ⟨g5, m * 11 + 2, none⟩ = some (.int .u64 p2) := ka 2 _ rfl
      have y3 : wr.cell? ⟨g5, m * 11 + 3, none⟩ = some (.int .u64 p3) := ka 3 _ rfl
      have y4 : wr.cell? ⟨g5, m * 11 + 4, none⟩ = some (.int .u64 p4) := ka 4 _ rfl
      have y5 : wr.cell? ⟨g5, m * 11 + 5, none⟩ = some (.int .i32 sc) := ka 5 _ rfl
      have y6 : wr.cell? ⟨g5, m * 11 + 6, none⟩ = some (.int .u64 (zc : Int)) := ka 6 _ rfl
      have y7 : wr.cell? ⟨g5, m * 11 + 7, none⟩ = some (.int .i32 ps) := ka 7 _ rfl
      have y8 : wr.cell? ⟨g5, m * 11 + 8, none⟩ = some (.slice pa xs.length ca) := ka 8 _ rfl
      have y9 : wr.cell? ⟨g5, m * 11 + 9, none⟩ = some (.int .i32 ns) := ka 9 _ rfl
      have y10 : wr.cell? ⟨g5, m * 11 + 10, none⟩ = some (.slice pb ys.length cb) := ka 10 _ rfl
      clear hal hax hbl hbx hacc hB hokm rA rB ka s1 s2 s3 s4 l1 l2 ea eb hq
      generalize xs.length = na at *
      generalize ys.length = nb at *
      go_upto_region 32 with fail
      obtain ⟨W7, hW7⟩ : ∃ W, W = wr.alloc (.cells #[.bool h, .int .u64 (cnt : Int), .int .u64 p2, .int .u64 p3, .int .u64 p4, .int .i32 sc, .int .u64 (zc : Int), .int .i32 ps, .slice pa na ca, .int .i32 ns, .slice pb nb cb] 26) := ⟨_, rfl⟩
      rw [show wr.alloc (.cells #[.bool h, .int .u64 (cnt : Int), .int .u64 p2, .int .u64 p3, .int .u64 p4, .int .i32 sc, .int .u64 (zc : Int), .int .i32 ps, .slice pa na ca, .int .i32 ns, .slice pb nb cb] 26) = W7 from hW7.symm]
      have hk7 : Kept [] wr W7 := by rw [hW7]; exact (Kept.refl _ _).alloc _
      have hp7 : W7.heap[wr.heap.size]? = some (.cells #[.bool h, U cnt, .int .u64 p2, .int .u64 p3, .int .u64 p4, .int .i32 sc, U zc, .int .i32 ps, .slice pa na ca, .int .i32 ns, .slice pb nb cb] 26 (0, 0)) := by rw [hW7]; exact (MapKept.heap_alloc _ _).1
      clear hW7 y0 y1 y2 y3 y4 y5 y6 y7 y8 y9 y10
      obtain ⟨P, hP⟩ : ∃ P, P = wr.heap.size := ⟨_, rfl⟩
      rw [← hP] at hp7 ⊢
      have HP := Lib.hid hP
      clear hP
      have HK7 := Lib.hid (HX.out.2.trans hk7)
      have z0 : W7.cell? ⟨g6, m * 11, none⟩ = some (.bool h) := RB.out W7 HK7.out 0 _ rfl
      have z1 : W7.cell? ⟨g6, m * 11 + 1, none⟩ = some (.int .u64 (cnt : Int)) := RB.out W7 HK7.out 1 _ rfl
      have z2 : W7.cell? ⟨g6, m * 11 + 2, none⟩ = some (.int .u64 (q2 : Int)) := RB.out W7 HK7.out 2 _ rfl
      have z3 : W7.cell? ⟨g6, m * 11 + 3, none⟩ = some (.int .u64 (q3 : Int)) := RB.out W7 HK7.out 3 _ rfl
      have z4 : W7.cell? ⟨g6, m * 11 + 4, none⟩ = some (.int .u64 (q4 : Int)) := RB.out W7 HK7.out 4 _ rfl
      have z5 : W7.cell? ⟨g6, m * 11 + 5, none⟩ = some (.int .i32 sc) := RB.out W7 HK7.out 5 _ rfl
      have z6 : W7.cell? ⟨g6, m * 11 + 6, none⟩ = some (.int .u64 (zc : Int)) := RB.out W7 HK7.out 6 _ rfl
      have z7 : W7.cell? ⟨g6, m * 11 + 7, none⟩ = some (.int .i32 ps) := RB.out W7 HK7.out 7 _ rfl
      have z8 : W7.cell? ⟨g6, m * 11 + 8, none⟩ = some (.slice pa' na ca') := RB.out W7 HK7.out 8 _ rfl
      have z9 : W7.cell? ⟨g6, m * 11 + 9, none⟩ = some (.int .i32 ns) := RB.out W7 HK7.out 9 _ rfl
      have z10 : W7.cell? ⟨g6, m * 11 + 10, none⟩ = some (.slice pb' nb cb') := RB.out W7 HK7.out 10 _ rfl
      have HP7 := Lib.hid hp7
      have HK7d := Lib.hid hk7
      clear hk7 hp7
      go_upto_region 33 with fail
      obtain ⟨W8, hW8⟩ : ∃ W, W = W7.alloc (.cells #[.bool h, .int .u64 (cnt : Int), .int .u64 (q2 : Int), .int .u64 (q3 : Int), .int .u64 (q4 : Int), .int .i32 sc, .int .u64 (zc : Int), .int .i32 ps, .slice pa' na ca', .int .i32 ns, .slice pb' nb cb'] 26) := ⟨_, rfl⟩
      rw [show W7.alloc (.cells #[.bool h, .int .u64 (cnt : Int), .int .u64 (q2 : Int), .int .u64 (q3 : Int), .int .u64 (q4 : Int), .int .i32 sc, .int .u64 (zc : Int), .int .i32 ps, .slice pa' na ca', .int .i32 ns, .slice pb' nb cb'] 26) = W8 from hW8.symm]
      have hk8 : Kept [] W7 W8 := by rw [hW8]; exact (Kept.refl _ _).alloc _
      have hq8 : W8.heap[W7.heap.size]? = some (.cells #[.bool h, U cnt, U q2, U q3, U q4, .int .i32 sc, U zc, .int .i32 ps, .slice pa' na ca', .int .i32 ns, .slice pb' nb cb'] 26 (0, 0)) := by rw [hW8]; exact (MapKept.heap_alloc _ _).1
      have hPQ : P < W7.heap.size := heap_lt HP7.out
      clear hW8 z0 z1 z2 z3 z4 z5 z6 z7 z8 z9 z10
      obtain ⟨Q, hQ⟩ : ∃ Q, Q = W7.heap.size := ⟨_, rfl⟩
      rw [← hQ] at hq8 hPQ ⊢
      have HQQ := Lib.hid (And.intro hQ hPQ)
      clear hQ hPQ
      have HK8 := Lib.hid (And.intro (HK7.out.trans hk8) hk8)
      have HC8 := Lib.hid (And.intro (hk8.obj HP7.out (by simp)) hq8)
      clear hk8 hq8
      have CP := Lib.hid (show ∀ w', Kept [] W8 w' → ∀ i v, #[Value.bool h, U cnt, .int .u64 p2, .int .u64 p3, .int .u64 p4, .int .i32 sc, U zc, .int .i32 ps, .slice pa na ca, .int .i32 ns, .slice pb nb cb][i]? = some v → w'.cell? ⟨P, i, none⟩ = some v from fun w' hk i v hv => cellOf (hk.obj HC8.out.1 (by simp)) hv)
      have CQ := Lib.hid (show ∀ w', Kept [] W8 w' → ∀ i v, #[Value.bool h, U cnt, U q2, U q3, U q4, .int .i32 sc, U zc, .int .i32 ps, .slice pa' na ca', .int .i32 ns, .slice pb' nb cb'][i]? = some v → w'.cell? ⟨Q, i, none⟩ = some v from fun w' hk i v hv => cellOf (hk.obj HC8.out.2 (by simp)) hv)
      have c2 : W8.cell? ⟨P, 2, none⟩ = some (.int .u64 p2) := CP.out W8 (Kept.refl _ _) 2 _ rfl
      have c3 : W8.cell? ⟨P, 3, none⟩ = some (.int .u64 p3) := CP.out W8 (Kept.refl _ _) 3 _ rfl
      have c4 : W8.cell? ⟨P, 4, none⟩ = some (.int .u64 p4) := CP.out W8 (Kept.refl _ _) 4 _ rfl
      have d2 : W8.cell? ⟨Q, 2, none⟩ = some (.int .u64 (q2 : Int)) := CQ.out W8 (Kept.refl _ _) 2 _ rfl
      have d3 : W8.cell? ⟨Q, 3, none⟩ = some (.int .u64 (q3 : Int)) := CQ.out W8 (Kept.refl _ _) 3 _ rfl
      have d4 : W8.cell? ⟨Q, 4, none⟩ = some (.int .u64 (q4 : Int)) := CQ.out W8 (Kept.refl _ _) 4 _ rfl
      go_wp2_with fail
      clear c2 c3 c4 d2 d3 d4
      obtain ⟨W9, hW9⟩ : ∃ W, W = W8.alloc (.cells #[.int .u64 p2, .int .u64 (q2 : Int), .int .u64 p3, .int .u64 (q3 : Int), .int .u64 p4, .int .u64 (q4 : Int)] 50) := ⟨_, rfl⟩
      rw [show W8.alloc (.cells #[.int .u64 p2, .int .u64 (q2 : Int), .int .u64 p3, .int .u64 (q3 : Int), .int .u64 p4, .int .u64 (q4 : Int)] 50) = W9 from hW9.symm]
      have hk9 : Kept [] W8 W9 := by rw [hW9]; exact (Kept.refl _ _).alloc _
      have hr9 : W9.heap[W8.heap.size]? = some (.cells #[.int .u64 p2, .int .u64 (q2 : Int), .int .u64 p3, .int .u64 (q3 : Int), .int .u64 p4, .int .u64 (q4 : Int)] 50 (0, 0)) := by rw [hW9]; exact (MapKept.heap_alloc _ _).1
      clear hW9
      obtain ⟨R, hR⟩ : ∃ R, R = W8.heap.size := ⟨_, rfl⟩
      rw [← hR] at hr9 ⊢
      clear hR
      have HK9 := Lib.hid hk9
      have RR := Lib.hid (show ∀ w', Kept [] W9 w' → ∀ i v, #[Value.int .u64 p2, .int .u64 (q2 : Int), .int .u64 p3, .int .u64 (q3 : Int), .int .u64 p4, .int .u64 (q4 : Int)][i]? = some v → w'.cell? ⟨R, i, none⟩ = some v from fun w' hk i v hv => cellOf (hk.obj hr9 (by simp)) hv)
      clear hk9 hr9
      obtain ⟨wD, hwD⟩ : ∃ x, x = wr := ⟨_, rfl⟩
      subst hwD
      go_loopw [132] (fun i wq => ∃ k : Nat, k ≤ 3 ∧ i = .int .i64 (k : Int) ∧ Kept [] W9 wq) (fun i _ => 3 - (intOf i).toNat)
      case atStart => exact ⟨0, by omega, rfl, Kept.refl _ _⟩
      case round =>
      obtain ⟨k, hk3, rfl, hkr⟩ := hrel
      have HK := Lib.hid hkr
      by_cases hk : k < 3
      · obtain ⟨a, b, r0, r1, hab⟩ : ∃ (a : Int) (b : Nat), wr.cell? ⟨R, k * 2, none⟩ = some (.int .u64 a) ∧ wr.cell? ⟨R, k * 2 + 1, none⟩ = some (.int .u64 (b : Int)) ∧ (h = true → (FloatKind.f64.format.order (floatOfInt .f64 (IntKind.i64.wrap a)) b == some .eq) = true) := by
          rcases (show k = 0 ∨ k = 1 ∨ k = 2 by omega) with rfl | rfl | rfl
          · exact ⟨p2, q2, RR.out wr hkr 0 _ rfl, RR.out wr hkr 1 _ rfl, fun e => (HQ7.out e).1⟩
          · exact ⟨p3, q3, RR.out wr hkr 2 _ rfl, RR.out wr hkr 3 _ rfl, fun e => (HQ7.out e).2.1⟩
          · exact ⟨p4, q4, RR.out wr hkr 4 _ rfl, RR.out wr hkr 5 _ rfl, fun e => (HQ7.out e).2.2⟩
        have c0 : wr.cell? ⟨P, 0, none⟩ = some (.bool h) := CP.out wr (HK9.out.trans hkr) 0 _ rfl
        have hk3i : (k : Int) < 3 := by omega
        have w3' : IntKind.i64.wrap ((k : Int) + 1) = (k : Int) + 1 := IntWalk.i64_in _ (by omega)
        have HK03 := Lib.hid hk
        clear hkr hk3
        go_upto_region 36 with fail
        clear r0 r1
        have HAB := Lib.hid hab
        clear hab
        have hk10 : Kept [] wr (wr.alloc (.cells #[.int .u64 a, .int .u64 (b : Int)] 50)) := (Kept.refl _ _).alloc _
        have s0 : (wr.alloc (.cells #[.int .u64 a, .int .u64 (b : Int)] 50)).cell? ⟨wr.heap.size, 0, none⟩ = some (.int .u64 a) := cell_one_new2 _ _ _ _ 0 _ rfl
        have s1 : (wr.alloc (.cells #[.int .u64 a, .int .u64 (b : Int)] 50)).cell? ⟨wr.heap.size, 1, none⟩ = some (.int .u64 (b : Int)) := cell_one_new2 _ _ _ _ 1 _ rfl
        have c0' : (wr.alloc (.cells #[.int .u64 a, .int .u64 (b : Int)] 50)).cell? ⟨P, 0, none⟩ = some (.bool h) := (cellKept hk10 (cell_lt c0) (by simp)).trans c0
        obtain ⟨WX, hWX⟩ : ∃ W, W = wr.alloc (.cells #[.int .u64 a, .int .u64 (b : Int)] 50) := ⟨_, rfl⟩
        rw [← hWX] at s0 s1 c0' hk10 ⊢
        have HX10 := Lib.hid hk10
        clear c0 hWX hk10
        cases h
        all_goals
          first
            | (have hor : (FloatKind.f64.format.order (floatOfInt .f64 (wrap64 a)) b != some .eq) = false := by
                have := HAB.out rfl
                rw [i64_64] at this
                unfold bne; rw [this]; rfl)
            | have hor : True := trivial
          first
            | (go_quiet (fail)
               rename_i K0 hK0 K1 hK1
               first | refine hK1 _ _ ?_ | refine hK0 _ _ ?_)
            | (go_region
               rename_i K0 hK0 K1 hK1
               rw [hor]
               first | refine hK1 _ _ ?_ | refine hK0 _ _ ?_)
          go_wp2_with fail
          go_roundw
          case rel => exact ⟨k + 1, by have := HK03.out; omega, by go_num, (HK.out.trans HX10.out).dr ⟨nq, rfl⟩⟩
          case measure => simp [intOf]; have := HK03.out; omega
      · obtain rfl : k = 3 := by omega
        have hrp := (HK9.out.trans hkr).obj HC8.out.1 (by simp)
        have hrq := (HK9.out.trans hkr).obj HC8.out.2 (by simp)
        have t2 : wr.cell? ⟨P, 2, none⟩ = some (.int .u64 p2) := cellOf hrp rfl
        have t3 : wr.cell? ⟨P, 3, none⟩ = some (.int .u64 p3) := cellOf hrp rfl
        have t4 : wr.cell? ⟨P, 4, none⟩ = some (.int .u64 p4) := cellOf hrp rfl
        have v2 : wr.cell? ⟨Q, 2, none⟩ = some (.int .u64 (q2 : Int)) := cellOf hrq rfl
        have v3 : wr.cell? ⟨Q, 3, none⟩ = some (.int .u64 (q3 : Int)) := cellOf hrq rfl
        have v4 : wr.cell? ⟨Q, 4, none⟩ = some (.int .u64 (q4 : Int)) := cellOf hrq rfl
        have f2 : wr.frozen? ⟨P, 2, none⟩ = false := frozenOf7 hrp
        have f3 : wr.frozen? ⟨P, 3, none⟩ = false := frozenOf7 hrp
        have f4 : wr.frozen? ⟨P, 4, none⟩ = false := frozenOf7 hrp
        have hPQ : P ≠ Q := by have := HQQ.out.2; omega
        have HRR := Lib.hid (And.intro hrp hrq)
        clear hkr hk hk3 hrp hrq
        go_upto_region 39 with fail
        go_region
        (try simp only [Exit.then])
        obtain ⟨WE, hWE⟩ : ∃ W, W = (((wr.setCell ⟨P, 2, none⟩ (.int .u64 (q2 : Int))).setCell ⟨P, 3, none⟩ (.int .u64 (q3 : Int))).setCell ⟨P, 4, none⟩ (.int .u64 (q4 : Int))).drew := ⟨_, rfl⟩
        rw [← hWE]
        have hEP : ∀ i, i ≠ 2 → i ≠ 3 → i ≠ 4 → WE.cell? ⟨P, i, none⟩ = wr.cell? ⟨P, i, none⟩ := fun i h2 h3 h4 => by rw [hWE]; exact set3_other wr P _ _ _ P i (.inr ⟨h2, h3, h4⟩)
        have hEQ : ∀ i, WE.cell? ⟨Q, i, none⟩ = wr.cell? ⟨Q, i, none⟩ := fun i => by rw [hWE]; exact set3_other wr P _ _ _ Q i (.inl (Ne.symm hPQ))
        have hPle : wD.heap.size ≤ P := by have := HP.out; omega
        have hkE : Kept [] wD WE := by
          rw [hWE]
          exact ((((HK7d.out.trans (HK8.out.2.trans (HK9.out.trans HK.out))).setCell (.inr hPle) _).setCell (.inr hPle) _).setCell (.inr hPle) _).dr ⟨1, rfl⟩
        have KE := Lib.hid (And.intro hkE (HX.out.2.trans hkE))
        have x0 : WE.cell? ⟨P, 0, none⟩ = some (.bool h) := (hEP 0 (by decide) (by decide) (by decide)).trans (cellOf HRR.out.1 rfl)
        have x1 : WE.cell? ⟨P, 1, none⟩ = some (.int .u64 (cnt : Int)) := (hEP 1 (by decide) (by decide) (by decide)).trans (cellOf HRR.out.1 rfl)
        have x5 : WE.cell? ⟨P, 5, none⟩ = some (.int .i32 sc) := (hEP 5 (by decide) (by decide) (by decide)).trans (cellOf HRR.out.1 rfl)
        have x6 : WE.cell? ⟨P, 6, none⟩ = some (.int .u64 (zc : Int)) := (hEP 6 (by decide) (by decide) (by decide)).trans (cellOf HRR.out.1 rfl)
        have x7 : WE.cell? ⟨P, 7, none⟩ = some (.int .i32 ps) := (hEP 7 (by decide) (by decide) (by decide)).trans (cellOf HRR.out.1 rfl)
        have x8 : WE.cell? ⟨P, 8, none⟩ = some (.slice pa na ca) := (hEP 8 (by decide) (by decide) (by decide)).trans (cellOf HRR.out.1 rfl)
        have x9 : WE.cell? ⟨P, 9, none⟩ = some (.int .i32 ns) := (hEP 9 (by decide) (by decide) (by decide)).trans (cellOf HRR.out.1 rfl)
        have x10 : WE.cell? ⟨P, 10, none⟩ = some (.slice pb nb cb) := (hEP 10 (by decide) (by decide) (by decide)).trans (cellOf HRR.out.1 rfl)
        have y0 : WE.cell? ⟨Q, 0, none⟩ = some (.bool h) := (hEQ 0).trans (cellOf HRR.out.2 rfl)
        have y1 : WE.cell? ⟨Q, 1, none⟩ = some (.int .u64 (cnt : Int)) := (hEQ 1).trans (cellOf HRR.out.2 rfl)
        have y5 : WE.cell? ⟨Q, 5, none⟩ = some (.int .i32 sc) := (hEQ 5).trans (cellOf HRR.out.2 rfl)
        have y6 : WE.cell? ⟨Q, 6, none⟩ = some (.int .u64 (zc : Int)) := (hEQ 6).trans (cellOf HRR.out.2 rfl)
        have y7 : WE.cell? ⟨Q, 7, none⟩ = some (.int .i32 ps) := (hEQ 7).trans (cellOf HRR.out.2 rfl)
        have y8 : WE.cell? ⟨Q, 8, none⟩ = some (.slice pa' na ca') := (hEQ 8).trans (cellOf HRR.out.2 rfl)
        have y9 : WE.cell? ⟨Q, 9, none⟩ = some (.int .i32 ns) := (hEQ 9).trans (cellOf HRR.out.2 rfl)
        have y10 : WE.cell? ⟨Q, 10, none⟩ = some (.slice pb' nb cb') := (hEQ 10).trans (cellOf HRR.out.2 rfl)
        have n0 : (h != h) = false := by simp
        have n1 : ((cnt : Int) != (cnt : Int)) = false := by simp
        have n5 : (sc != sc) = false := by simp
        have n6 : ((zc : Int) != (zc : Int)) = false := by simp
        have n7 : (ps != ps) = false := by simp
        have n9 : (ns != ns) = false := by simp
        have HXY := Lib.hid (And.intro x10 y10)
        clear t2 t3 t4 v2 v3 v4 f2 f3 f4 hWE hEP hEQ hPle hkE
        go_wp2_with fail
        refine (F1.out WE KE.out.2).mono ?_; rintro e w8 ⟨rfl, hk⟩
        have K8 := Lib.hid (KE.out.2.trans hk)
        have x10' : w8.cell? ⟨P, 10, none⟩ = some (.slice pb nb cb) := (cellKept hk (cell_lt HXY.out.1) (by simp)).trans HXY.out.1
        have y10' : w8.cell? ⟨Q, 10, none⟩ = some (.slice pb' nb cb') := (cellKept hk (cell_lt HXY.out.2) (by simp)).trans HXY.out.2
        clear x0 x1 x5 x6 x7 x8 x9 x10 y0 y1 y5 y6 y7 y8 y9 y10 n0 n1 n5 n6 n7 n9 hk
        go_wp2_with fail
        refine (F2.out w8 K8.out).mono ?_; rintro e w9 ⟨rfl, hk⟩
        have K9 := Lib.hid (K8.out.trans hk)
        clear x10' y10' hk
        go_wp2_with fail
        go_roundw
        case rel => exact ⟨m + 1, by omega, by go_num, K9.out⟩
        case measure => simp [intOf]; omega
    · have hml : m = rs.length := by have := HX.out.1; omega
      subst hml
      have hji : ¬ (rs.length : Int) < (rs.length : Int) := by omega
      go_wp2_with fail
      refine (awake _).mono ?_; rintro e w9 ⟨rfl, hk⟩
      have HK9 := Lib.hid (HK3.out.trans (INV.out.k.trans (H6.out.2.trans (HX.out.2.trans hk))))
      clear hk
      go_wp2_with fail
      go_ret
      exact ⟨rfl, HK9.out⟩
end Go.Proofs.YtlpddogcnpokfaaGreat.I
