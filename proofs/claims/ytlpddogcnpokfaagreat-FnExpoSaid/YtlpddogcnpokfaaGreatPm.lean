/- The same numbers have the same buckets: order, signs. Numbers of the other sign, and twice as great ones: their buckets. A data point in memory. -/
import Derived.Test.YtlpddogcnpokfaaGreatSp7
import Derived.Test.YtlpddogcnpokfaaGreatOne
namespace Go.Proofs.YtlpddogcnpokfaaGreat

/-- the same numbers have the same buckets -/
theorem BkOk.uniq {top : Nat} {size : Int} {b0 : Nat} {P N P' N' : List Int} {z z' b b' : Nat} {s s' : Bk} (h : BkOk top size b0 P N z b s) (k : BkOk top size b0 P' N' z' b' s') (hP : P'.Perm P) (hN : N'.Perm N) :
    b = b' ∧ s.sc = s'.sc ∧ s.ps = s'.ps ∧ s.pl = s'.pl ∧ s.ns = s'.ns ∧ s.nl = s'.nl := by
  have k' := k.perm hP hN
  have e : b = b' := by
    have a1 := h.below k'.le k'.fp k'.fn
    have a2 := k'.below h.le h.fp h.fn
    omega
  subst e
  obtain ⟨e1, e2⟩ := h.sp.one k'.sp
  obtain ⟨e3, e4⟩ := h.sn.one k'.sn
  exact ⟨rfl, h.sc.trans k.sc.symm, e1, e2, e3, e4⟩
theorem BkOk.swap {top : Nat} {size : Int} {b0 : Nat} {P N : List Int} {z b : Nat} {s : Bk} (h : BkOk top size b0 P N z b s) : BkOk top size b0 N P z b ⟨s.sc, s.ns, s.nl, s.ps, s.pl, s.zc⟩ :=
  ⟨h.sc, h.le, h.sn, h.sp, h.zc, h.fn, h.fp, fun c h1 h2 h3 => h.least c h1 h2 ⟨h3.2, h3.1⟩⟩

theorem pIs_permL {top : Nat} {l k : List Nat} (h : l.Perm k) : (pIs top l).Perm (pIs top k) := by
  unfold pIs; exact (h.filter _).map _
theorem nIs_permL {top : Nat} {l k : List Nat} (h : l.Perm k) : (nIs top l).Perm (nIs top k) := by
  unfold nIs; exact (h.filter _).map _
theorem zIs_permL {l k : List Nat} (h : l.Perm k) : zIs l = zIs k := by
  unfold zIs; exact h.countP_eq _
theorem Fine.permL {top : Nat} {size : Int} {b0 B : Nat} {l k : List Nat} (h : Fine top size b0 B l) (hp : k.Perm l) : Fine top size b0 B k :=
  ⟨fun v hv => h.lt v (hp.mem_iff.1 hv), fun v hv => h.fin v (hp.mem_iff.1 hv), fun v hv => h.near v (hp.mem_iff.1 hv), h.hB, h.hB2,
    h.f1.perm (pIs_permL hp.symm), h.f2.perm (nIs_permL hp.symm)⟩
theorem Fine.permL_iff {top : Nat} {size : Int} {b0 B : Nat} {l k : List Nat} (hp : k.Perm l) : Fine top size b0 B k ↔ Fine top size b0 B l := ⟨fun h => h.permL hp.symm, fun h => h.permL hp⟩

/-- the other sign -/
def negW (v : Nat) : Nat := if v < 9223372036854775808 then v + 9223372036854775808 else v - 9223372036854775808
theorem absW_negW {v : Nat} (hv : v < 18446744073709551616) : absW (negW v) = absW v := by
  unfold negW absW; split <;> omega

/-- counts at the first and the last place, and how many places -/
theorem Sd.ends {b : Nat} {L : List Int} {st : Int} {l : List Nat} (h : Sd b L st l) (hl : 0 < l.length) : l.getD 0 0 ≠ 0 ∧ l.getD (l.length - 1) 0 ≠ 0 := by
  have hL : L ≠ [] := fun e => by rw [(h.nil e).2] at hl; simp at hl
  have h1 := h.low hL
  have h2 := h.high hL
  have c1 := h.cnt 0 hl
  have c2 := h.cnt (l.length - 1) (by omega)
  rw [show st + ((0 : Nat) : Int) = st from by omega] at c1
  rw [show st + ((l.length - 1 : Nat) : Int) = st + l.length - 1 from by omega] at c2
  omega
end Go.Proofs.YtlpddogcnpokfaaGreat
namespace Go.Proofs.YtlpddogcnpokfaaGreat
open Ieee

/-- the number of the other sign -/
def negF (v : Nat) : Nat := v ^^^ 9223372036854775808
theorem negF_mod (v : Nat) : negF v % 9223372036854775808 = v % 9223372036854775808 := by
  unfold negF
  have := Nat.xor_mod_two_pow (a := v) (b := 9223372036854775808) (n := 63)
  rw [show (9223372036854775808 : Nat) = 2 ^ 63 from rfl] at *
  rw [this]; simp
theorem negF_div (v : Nat) (hv : v < 18446744073709551616) : negF v / 9223372036854775808 = 1 - v / 9223372036854775808 := by
  unfold negF
  have := Nat.xor_div_two_pow (a := v) (b := 9223372036854775808) (n := 63)
  rw [show (9223372036854775808 : Nat) = 2 ^ 63 from rfl] at *
  rw [this, Nat.div_self (by decide)]
  have h : v / 2 ^ 63 = 0 ∨ v / 2 ^ 63 = 1 := by omega
  rcases h with h | h <;> rw [h] <;> rfl
theorem absW_negF (v : Nat) : absW (negF v) = absW v := negF_mod v
theorem negF_lt (v : Nat) (hv : v < 18446744073709551616) : negF v < 18446744073709551616 := by
  have h1 := negF_div v hv
  have h2 := negF_mod v
  omega
theorem sign_negF (v : Nat) (hv : v < 18446744073709551616) : Lg.negW (negF v) = !Lg.negW v := by
  unfold Lg.negW
  rw [show (2 ^ 63 : Nat) = 9223372036854775808 from rfl, negF_div v hv]
  have h : v / 9223372036854775808 = 0 ∨ v / 9223372036854775808 = 1 := by omega
  rcases h with h | h <;> rw [h] <;> rfl
theorem ltW_sign {v : Nat} (hf : absW v < 2047 * 2 ^ 52) (h0 : absW v ≠ 0) : ltW v 0 = Lg.negW v := by
  have hf' : Lg.fin v := hf
  have h00 : Lg.fin 0 := by decide +kernel
  have hz : Lg.val 0 = 0 := by rw [Lg.val_zero]; rfl
  have e := Lg.order_lt (Lg.is_fin hf') (Lg.is_fin h00)
  rw [hz] at e
  unfold ltW
  rw [show (FloatKind.f64.format.order v 0 == some Ordering.lt) = decide (Lg.val v < 0) from e]
  have hm : (0 : Rat) < (Lg.mag v : Rat) := by
    have : Lg.mag v ≠ 0 := fun h => h0 ((Lg.mag_zero v).1 h)
    exact Rat.natCast_pos.2 (Nat.pos_of_ne_zero this)
  have hp := Lg.p2_pos (Lg.pl v)
  have hmp := Rat.mul_pos hm hp
  unfold Lg.val Lg.sg
  cases Lg.negW v
  · simp only [Bool.false_eq_true, if_false, decide_eq_false_iff_not]; grind
  · simp only [if_true, decide_eq_true_eq]; grind
theorem ltW_negF {v : Nat} (hv : v < 18446744073709551616) (hf : absW v < 2047 * 2 ^ 52) (h0 : absW v ≠ 0) : ltW (negF v) 0 = !ltW v 0 := by
  rw [ltW_sign hf h0, ltW_sign (by rw [absW_negF]; exact hf) (by rw [absW_negF]; exact h0), sign_negF v hv]

theorem pIs_neg (top : Nat) (l : List Nat) (hv : ∀ v, v ∈ l → v < 18446744073709551616) (hf : ∀ v, v ∈ l → absW v < 2047 * 2 ^ 52) : pIs top (l.map negF) = nIs top l ∧ nIs top (l.map negF) = pIs top l ∧ zIs (l.map negF) = zIs l := by
  induction l with
  | nil => exact ⟨rfl, rfl, rfl⟩
  | cons v l ih =>
    obtain ⟨i1, i2, i3⟩ := ih (fun u hu => hv u (List.mem_cons_of_mem _ hu)) (fun u hu => hf u (List.mem_cons_of_mem _ hu))
    rw [List.map_cons, pIs_cons, nIs_cons, nIs_cons, pIs_cons, zIs_cons, zIs_cons, absW_negF, i1, i2, i3]
    by_cases h0 : absW v = 0
    · simp [h0]
    · rw [ltW_negF (hv v List.mem_cons_self) (hf v List.mem_cons_self) h0]
      cases ltW v 0 <;> simp [h0]
theorem Fine.neg {top : Nat} {size : Int} {b0 B : Nat} {l : List Nat} (h : Fine top size b0 B l) : Fine top size b0 B (l.map negF) := by
  obtain ⟨p1, p2, _⟩ := pIs_neg top l h.lt h.fin
  refine ⟨?_, ?_, ?_, h.hB, h.hB2, by rw [p1]; exact h.f2, by rw [p2]; exact h.f1⟩
  · intro v hv
    obtain ⟨u, hu, rfl⟩ := List.mem_map.1 hv
    exact negF_lt u (h.lt u hu)
  · intro v hv
    obtain ⟨u, hu, rfl⟩ := List.mem_map.1 hv
    rw [absW_negF]; exact h.fin u hu
  · intro v hv
    obtain ⟨u, hu, rfl⟩ := List.mem_map.1 hv
    rw [absW_negF]; exact h.near u hu
/-- of the other sign: both sides exchanged -/
theorem BkOk.neg {top : Nat} {size : Int} {b0 : Nat} {l : List Nat} {b b' : Nat} {s s' : Bk} (h : BkOk top size b0 (pIs top l) (nIs top l) (zIs l) b s) (k : BkOk top size b0 (pIs top (l.map negF)) (nIs top (l.map negF)) (zIs (l.map negF)) b' s')
    (hv : ∀ v, v ∈ l → v < 18446744073709551616) (hf : ∀ v, v ∈ l → absW v < 2047 * 2 ^ 52) : s.sc = s'.sc ∧ s.zc = s'.zc ∧ s.ps = s'.ns ∧ s.pl = s'.nl ∧ s.ns = s'.ps ∧ s.nl = s'.pl := by
  obtain ⟨p1, p2, p3⟩ := pIs_neg top l hv hf
  rw [p1, p2, p3] at k
  obtain ⟨_, e1, e2, e3, e4, e5⟩ := h.swap.uniq k (List.Perm.refl _) (List.Perm.refl _)
  exact ⟨e1, h.zc.trans k.zc.symm, e4, e5, e2, e3⟩
end Go.Proofs.YtlpddogcnpokfaaGreat
namespace Go.Proofs.YtlpddogcnpokfaaGreat
open Ieee
/-- twice a number -/
def dblF (v : Nat) : Nat := if absW v = 0 then v else v + 4503599627370496
theorem read_two : double.read 4611686018427387904 = .number false 4503599627370496 (-51) := by decide +kernel
theorem even_cut (s : Bool) (m : Nat) (h1 : 4503599627370496 ≤ m) (h2 : m < 9007199254740992) : Toward.even.cut s (4503599627370496 * m) 52 = m := by
  have hlog : (4503599627370496 * m).log2 = 104 := (Nat.log2_eq_iff (by omega)).2 ⟨by omega, by omega⟩
  unfold Toward.cut
  rw [hlog]
  have hg : 1 <<< min 52 (104 + 2) = 4503599627370496 := by decide
  simp only [hg]
  have e1 : 4503599627370496 * m / 4503599627370496 = m := Nat.mul_div_cancel_left _ (by decide)
  have e2 : 4503599627370496 * m % 4503599627370496 = 0 := Nat.mul_mod_right _ _
  rw [e1, e2]; simp
theorem mul_two (v : Nat) (hv : v < 18446744073709551616) (h1 : 4503599627370496 ≤ absW v) (h2 : absW v < 2046 * 4503599627370496) : double.mul 4611686018427387904 v = some (v + 4503599627370496) := by
  unfold absW at h1 h2
  have hf : Lg.fin v := by unfold Lg.fin Lg.rung; omega
  unfold Format.mul
  rw [read_two, Lg.read_fin hf]
  have hm : Lg.mag v = 4503599627370496 + v % 4503599627370496 := by unfold Lg.mag Lg.rung; rw [if_neg (by omega)]; omega
  have hp : Lg.pl v = ((v % 9223372036854775808 / 4503599627370496 : Nat) : Int) - 1075 := by unfold Lg.pl Lg.rung; rw [if_neg (by omega)]
  show some (double.nearest (false ^^ Lg.negW v) (4503599627370496 * Lg.mag v) (-51 + Lg.pl v)) = _
  congr 1
  obtain ⟨m, hmm⟩ : ∃ m, m = Lg.mag v := ⟨_, rfl⟩
  rw [← hmm] at hm ⊢
  have hm1 : 4503599627370496 ≤ m := by omega
  have hm2 : m < 9007199254740992 := by omega
  have hlog : (4503599627370496 * m).log2 = 104 := (Nat.log2_eq_iff (by omega)).2 ⟨by omega, by omega⟩
  unfold Format.nearest
  rw [if_neg (by omega), hlog, Lg.least_eq, Lg.binade_eq, Lg.inf_eq]
  have hfb : (double.fractionBits : Int) = 52 := rfl
  rw [hfb]
  have hlast : max (-51 + Lg.pl v + ((104 : Nat) : Int) - 52) (-1074) = Lg.pl v + 1 := by omega
  have e1 : (-51 + Lg.pl v - (Lg.pl v + 1)).toNat = 0 := by omega
  have e2 : (Lg.pl v + 1 - (-51 + Lg.pl v)).toNat = 52 := by omega
  have hr : (Lg.pl v + 1 - -1074).toNat = v % 9223372036854775808 / 4503599627370496 := by omega
  generalize Lg.pl v = P at *
  simp only [hlast, e1, e2, hr]
  rw [Nat.shiftLeft_zero, even_cut _ m hm1 hm2]
  have hsum : v % 9223372036854775808 / 4503599627370496 * 2 ^ 52 + m = v % 9223372036854775808 + 4503599627370496 := by omega
  rw [hsum, Nat.min_eq_left (by omega)]
  unfold Format.word
  rw [Lg.sign_eq]
  have hd : v / 9223372036854775808 = 0 ∨ v / 9223372036854775808 = 1 := by omega
  rcases hd with hd | hd
  · have hn : Lg.negW v = false := by unfold Lg.negW; rw [show (2 ^ 63 : Nat) = 9223372036854775808 from rfl, hd]; rfl
    rw [hn]
    show v % 9223372036854775808 + 4503599627370496 = _
    omega
  · have hn : Lg.negW v = true := by unfold Lg.negW; rw [show (2 ^ 63 : Nat) = 9223372036854775808 from rfl, hd]; rfl
    rw [hn]
    show 2 ^ 63 + (v % 9223372036854775808 + 4503599627370496) = _
    omega
theorem mul_dbl (v : Nat) (hv : v < 18446744073709551616) (h : absW v = 0 ∨ (553942754166571008 ≤ absW v ∧ absW v ≤ 8660422083433463808)) : floatBits .mul .f64 4611686018427387904 v = some (dblF v) := by
  show double.mul 4611686018427387904 v = some (dblF v)
  unfold dblF
  rcases h with h | h
  · rw [if_pos h]
    unfold absW at h
    have hd : v = 0 ∨ v = 9223372036854775808 := by omega
    rcases hd with rfl | rfl <;> decide +kernel
  · rw [if_neg (by omega)]
    exact mul_two v hv (by omega) (by omega)
theorem absW_dblF {v : Nat} (h : absW v ≤ 8660422083433463808) : absW (dblF v) = if absW v = 0 then 0 else absW v + 4503599627370496 := by
  unfold dblF
  by_cases h0 : absW v = 0
  · rw [if_pos h0, if_pos h0]; exact h0
  · rw [if_neg h0, if_neg h0]
    unfold absW at *; omega
theorem dblF_lt {v : Nat} (hv : v < 18446744073709551616) (h : absW v ≤ 8660422083433463808) : dblF v < 18446744073709551616 := by
  unfold dblF absW at *; split <;> omega
theorem ltW_dblF {v : Nat} (_hv : v < 18446744073709551616) (h0 : absW v ≠ 0) (h : absW v ≤ 8660422083433463808) : ltW (dblF v) 0 = ltW v 0 := by
  have e := absW_dblF h
  rw [if_neg h0] at e
  rw [ltW_sign (by omega) h0, ltW_sign (by omega) (by omega)]
  unfold Lg.negW dblF
  rw [if_neg h0]
  unfold absW at *
  have : (v + 4503599627370496) / 2 ^ 63 = v / 2 ^ 63 := by omega
  rw [this]
theorem idx_dbl (top w : Nat) (h : 4503599627370496 ≤ w) : Lg.idx top (w + 4503599627370496) = Lg.idx top w + ((2 ^ top : Nat) : Int) := by
  have hf : Lg.fr (w + 4503599627370496) = Lg.fr w := by
    unfold Lg.fr; rw [if_neg (by omega), if_neg (by omega)]; omega
  have he : Lg.ex (w + 4503599627370496) = Lg.ex w + 1 := by
    unfold Lg.ex; rw [if_neg (by omega), if_neg (by omega)]; omega
  unfold Lg.idx Lg.dig
  rw [hf, he, Int.add_mul, Int.one_mul]
  split <;> omega
/-- numbers that the law lets in -/
def DblIn (l : List Nat) : Prop := ∀ v, v ∈ l → absW v = 0 ∨ (553942754166571008 ≤ absW v ∧ absW v ≤ 8660422083433463808)
theorem pIs_dbl (top : Nat) (l : List Nat) (hv : ∀ v, v ∈ l → v < 18446744073709551616) (h : DblIn l) :
    pIs top (l.map dblF) = (pIs top l).map (fun x => x + ((2 ^ top : Nat) : Int)) ∧ nIs top (l.map dblF) = (nIs top l).map (fun x => x + ((2 ^ top : Nat) : Int)) ∧ zIs (l.map dblF) = zIs l := by
  induction l with
  | nil => exact ⟨rfl, rfl, rfl⟩
  | cons v l ih =>
    obtain ⟨i1, i2, i3⟩ := ih (fun u hu => hv u (List.mem_cons_of_mem _ hu)) (fun u hu => h u (List.mem_cons_of_mem _ hu))
    have hin := h v List.mem_cons_self
    have hle : absW v ≤ 8660422083433463808 := by omega
    rw [List.map_cons, pIs_cons, nIs_cons, nIs_cons, pIs_cons, zIs_cons, zIs_cons, absW_dblF hle, i1, i2, i3]
    by_cases h0 : absW v = 0
    · simp [h0]
    · rw [if_neg h0, ltW_dblF (hv v List.mem_cons_self) h0 hle, idx_dbl top _ (by omega)]
      cases ltW v 0 <;> simp [h0]
theorem div_shift (x : Int) (b top : Nat) (h : b ≤ top) : (x + ((2 ^ top : Nat) : Int)) / ((2 ^ b : Nat) : Int) = x / ((2 ^ b : Nat) : Int) + ((2 ^ (top - b) : Nat) : Int) := by
  have hp : (0 : Int) < ((2 ^ b : Nat) : Int) := by have := Nat.two_pow_pos b; omega
  have e : ((2 ^ top : Nat) : Int) = ((2 ^ b : Nat) : Int) * ((2 ^ (top - b) : Nat) : Int) := by
    rw [← Int.natCast_mul, ← Nat.pow_add]; congr 2; omega
  rw [e, Int.add_mul_ediv_left _ _ (by omega)]
theorem cntB_shift (L : List Int) (b top : Nat) (h : b ≤ top) (q : Int) : cntB (L.map (fun x => x + ((2 ^ top : Nat) : Int))) b (q + ((2 ^ (top - b) : Nat) : Int)) = cntB L b q := by
  induction L with
  | nil => rfl
  | cons x L ih =>
    rw [List.map_cons, cntB_cons, cntB_cons, ih, div_shift x b top h]
    congr 1
    by_cases hx : x / ((2 ^ b : Nat) : Int) = q
    · rw [if_pos hx, if_pos (by omega)]
    · rw [if_neg hx, if_neg (by omega)]
theorem Sd.shift {b top : Nat} {L : List Int} {st : Int} {l : List Nat} (h : Sd b L st l) (hb : b ≤ top) (hL : L ≠ []) : Sd b (L.map (fun x => x + ((2 ^ top : Nat) : Int))) (st + ((2 ^ (top - b) : Nat) : Int)) l := by
  have key : ∀ q q' : Int, q' = q + ((2 ^ (top - b) : Nat) : Int) → cntB (L.map (fun x => x + ((2 ^ top : Nat) : Int))) b q' = cntB L b q := fun q q' e => by rw [e]; exact cntB_shift L b top hb q
  refine ⟨fun e => absurd (List.map_eq_nil_iff.1 e) hL, fun _ => h.pos hL, fun j hj => ?_, fun _ => ?_, fun _ => ?_, fun y hy => ?_⟩
  · rw [key (st + j) _ (by omega)]; exact h.cnt j hj
  · rw [key st _ rfl]; exact h.low hL
  · rw [key (st + l.length - 1) _ (by omega)]; exact h.high hL
  · obtain ⟨x, hx, rfl⟩ := List.mem_map.1 hy
    have := h.all x hx
    rw [div_shift x b top hb]; omega
theorem Sd.nilL {b : Nat} {L : List Int} {st : Int} {l : List Nat} (h : Sd b L st l) : L = [] ↔ l = [] := ⟨fun e => (h.nil e).2, fun e => Classical.byContradiction fun hL => h.pos hL e⟩
/-- of twice as great numbers: the same counts, as many places higher -/
theorem BkOk.dbl {top : Nat} {size : Int} {b0 : Nat} {l : List Nat} {b b' : Nat} {s s' : Bk} (h : BkOk top size b0 (pIs top l) (nIs top l) (zIs l) b s) (k : BkOk top size b0 (pIs top (l.map dblF)) (nIs top (l.map dblF)) (zIs (l.map dblF)) b' s')
    (hv : ∀ v, v ∈ l → v < 18446744073709551616) (hin : DblIn l) (hsc : s'.sc = s.sc) (h0 : 0 ≤ s.sc) :
    s.pl = s'.pl ∧ s.nl = s'.nl ∧ (s.pl ≠ [] → s'.ps = s.ps + ((2 ^ s.sc.toNat : Nat) : Int)) ∧ (s.nl ≠ [] → s'.ns = s.ns + ((2 ^ s.sc.toNat : Nat) : Int)) := by
  obtain ⟨p1, p2, _⟩ := pIs_dbl top l hv hin
  have hb : b' = b := by have := h.sc; have := k.sc; omega
  subst hb
  have hbt : b' ≤ top := by have := h.sc; omega
  have e : s.sc.toNat = top - b' := by have := h.sc; omega
  rw [e]
  have hsp := k.sp
  have hsn := k.sn
  rw [p1] at hsp
  rw [p2] at hsn
  have gen : ∀ (L : List Int) (st st' : Int) (u u' : List Nat), Sd b' L st u → Sd b' (L.map (fun x => x + ((2 ^ top : Nat) : Int))) st' u' → u = u' ∧ (u ≠ [] → st' = st + ((2 ^ (top - b') : Nat) : Int)) := by
    intro L st st' u u' h1 h2
    by_cases hL : L = []
    · subst hL
      have e1 := (h1.nil rfl).2
      have e2 := (h2.nil rfl).2
      exact ⟨e1.trans e2.symm, fun hn => absurd e1 hn⟩
    · obtain ⟨e1, e2⟩ := (h1.shift hbt hL).one h2
      exact ⟨e2, fun _ => e1.symm⟩
  obtain ⟨a1, a2⟩ := gen _ _ _ _ _ h.sp hsp
  obtain ⟨b1, b2⟩ := gen _ _ _ _ _ h.sn hsn
  exact ⟨a1, b1, a2, b2⟩
end Go.Proofs.YtlpddogcnpokfaaGreat
namespace Go.Proofs.YtlpddogcnpokfaaGreat
open Go.RowKit Go.Maps
/-- a law's end: true, and old memory as it was -/
def LawT (w : World) (e : Ending) (w' : World) : Prop := e = .returned (.bool true) ∧ Kept [] w w'
/-- a data point in memory -/
structure PtMem (w : World) (B : Nat) (s : Bk) (cnt r mn mx : Nat) (pa : Option Addr) (na ca : Nat) (pb : Option Addr) (nb cb : Nat) : Prop where
  c0 : w.cell? ⟨B, 0, none⟩ = some (.bool true)
  c1 : w.cell? ⟨B, 1, none⟩ = some (.int .u64 (cnt : Int))
  c2 : w.cell? ⟨B, 2, none⟩ = some (.int .u64 (r : Int))
  c3 : w.cell? ⟨B, 3, none⟩ = some (.int .u64 (mn : Int))
  c4 : w.cell? ⟨B, 4, none⟩ = some (.int .u64 (mx : Int))
  c5 : w.cell? ⟨B, 5, none⟩ = some (.int .i32 s.sc)
  c6 : w.cell? ⟨B, 6, none⟩ = some (.int .u64 (s.zc : Int))
  c7 : w.cell? ⟨B, 7, none⟩ = some (.int .i32 s.ps)
  c8 : w.cell? ⟨B, 8, none⟩ = some (.slice pa na ca)
  c9 : w.cell? ⟨B, 9, none⟩ = some (.int .i32 s.ns)
  c10 : w.cell? ⟨B, 10, none⟩ = some (.slice pb nb cb)
  sa : SlAt w (.slice pa na ca) (s.pl.map U)
  sb : SlAt w (.slice pb nb cb) (s.nl.map U)
  la : na = s.pl.length
  lb : nb = s.nl.length
  oa : w.ownsRow 0 23 1 (.slice pa na ca) s.pl.length (s.pl.map U)
  ob : w.ownsRow 0 23 1 (.slice pb nb cb) s.nl.length (s.nl.map U)
theorem PtMem.lt {w : World} {B : Nat} {s : Bk} {cnt r mn mx : Nat} {pa : Option Addr} {na ca : Nat} {pb : Option Addr} {nb cb : Nat} (h : PtMem w B s cnt r mn mx pa na ca pb nb cb) : B < w.heap.size := cell_lt h.c0
theorem PtMem.kept {w w' : World} {B : Nat} {s : Bk} {cnt r mn mx : Nat} {pa : Option Addr} {na ca : Nat} {pb : Option Addr} {nb cb : Nat} (h : PtMem w B s cnt r mn mx pa na ca pb nb cb) (hk : Kept [] w w') : PtMem w' B s cnt r mn mx pa na ca pb nb cb := by
  have k : ∀ i, w'.cell? ⟨B, i, none⟩ = w.cell? ⟨B, i, none⟩ := fun i => hk.cell h.lt (by simp)
  exact ⟨(k _).trans h.c0, (k _).trans h.c1, (k _).trans h.c2, (k _).trans h.c3, (k _).trans h.c4, (k _).trans h.c5, (k _).trans h.c6, (k _).trans h.c7, (k _).trans h.c8, (k _).trans h.c9, (k _).trans h.c10, h.sa.kept hk, h.sb.kept hk, h.la, h.lb, own_keptK h.oa hk (by simp), own_keptK h.ob hk (by simp)⟩
/-- what is known of an asked point -/
structure PtKnow (size scale : Int) (l : List Nat) (s : Bk) (mn mx : Nat) : Prop where
  ask : Asked size scale l
  bk : ∃ b, BkOk (topOf scale) size ((topOf scale : Int) - scale).toNat (pIs (topOf scale) l) (nIs (topOf scale) l) (zIs l) b s
  sum : s.pl.sum + s.nl.sum + s.zc = l.length
  lim : BkLim s
  mm : mmOf l = some (mn, mx)
/-- a point that was handed out, laid in a block of its own -/
theorem OneIs.lay {w1 : World} {size scale : Int} {l : List Nat} {cs : List Value} (h : OneIs w1 size scale l cs) (ha : Asked size scale l) :
    ∃ s r mn mx pa na ca pb nb cb, PtKnow size scale l s mn mx ∧ PtMem ((w1.alloc (.cells exZero.toArray 26)).setRow w1.heap.size cs.toArray) w1.heap.size s l.length r mn mx pa na ca pb nb cb := by
  obtain ⟨b, s, r, mn, mx, va, vb, hbk, hsum, hlim, hmm, hcs, hoa, hob⟩ := h
  have hsa := SlAt.own hoa
  have hsb := SlAt.own hob
  have hk2 : Kept [] w1 ((w1.alloc (.cells exZero.toArray 26)).setRow w1.heap.size cs.toArray) := setRow_kept ((Kept.refl _ _).alloc _) (.inr (Nat.le_refl _))
  have hcell : ∀ j u, (exVals (s.pl.sum + s.nl.sum + s.zc) r mn mx s va vb)[j]? = some u → ((w1.alloc (.cells exZero.toArray 26)).setRow w1.heap.size cs.toArray).cell? ⟨w1.heap.size, j, none⟩ = some u := fun j u hj =>
    cellOf (setRow_heap _ _ _ _ _ _ (MapKept.heap_alloc w1 (.cells exZero.toArray 26)).1) (by rw [hcs]; simpa using hj)
  obtain ⟨pa, ca, rfl, _⟩ := hsa.read
  obtain ⟨pb, cb, rfl, _⟩ := hsb.read
  refine ⟨s, r, mn, mx, pa, _, ca, pb, _, cb, ⟨ha, ⟨b, hbk⟩, hsum, hlim, hmm⟩, hcell 0 _ rfl, ?_, hcell 2 _ rfl, hcell 3 _ rfl, hcell 4 _ rfl, hcell 5 _ rfl, hcell 6 _ rfl, hcell 7 _ rfl, hcell 8 _ rfl, hcell 9 _ rfl, hcell 10 _ rfl, hsa.kept hk2, hsb.kept hk2, by simp, by simp, own_keptK hoa hk2 (by simp), own_keptK hob hk2 (by simp)⟩
  rw [← hsum]; exact hcell 1 _ rfl
end Go.Proofs.YtlpddogcnpokfaaGreat
