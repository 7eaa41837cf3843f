/- Polynomials over whole numbers at rational places; that the polynomial by which the program reckons a logarithm doubles where its argument is squared, but for a bounded fault. -/
namespace Go.Proofs.YtlpddogcnpokfaaGreat.Lg

def pev : List Int → Rat → Rat
  | [], _ => 0
  | c :: p, x => (c : Rat) + x * pev p x

def padd : List Int → List Int → List Int
  | [], q => q
  | p, [] => p
  | a :: p, b :: q => (a + b) :: padd p q

def psmul (c : Int) : List Int → List Int
  | [] => []
  | a :: p => (c * a) :: psmul c p

def pmul : List Int → List Int → List Int
  | [], _ => []
  | a :: p, q => padd (psmul a q) (0 :: pmul p q)

def ppow (p : List Int) : Nat → List Int
  | 0 => [1]
  | n + 1 => pmul p (ppow p n)

/-- 'Σ c_j W1^j W2^(n-j)' -/
def hcomp (W1 W2 : List Int) : List Int → Nat → List Int
  | [], _ => []
  | c :: p, n => padd (psmul c (ppow W2 n)) (pmul W1 (hcomp W1 W2 p (n - 1)))

def pabs : List Int → List Int
  | [] => []
  | a :: p => (a.natAbs : Int) :: pabs p

theorem pev_add (p q : List Int) (x : Rat) : pev (padd p q) x = pev p x + pev q x := by
  induction p generalizing q with
  | nil => simp [padd, pev]; grind
  | cons a p ih =>
    cases q with
    | nil => simp [padd, pev, Rat.add_zero]
    | cons b q => simp only [padd, pev, ih, Rat.intCast_add]; grind

theorem pev_smul (c : Int) (p : List Int) (x : Rat) : pev (psmul c p) x = c * pev p x := by
  induction p with
  | nil => simp [psmul, pev]
  | cons a p ih => simp only [psmul, pev, ih, Rat.intCast_mul]; grind

theorem pev_mul (p q : List Int) (x : Rat) : pev (pmul p q) x = pev p x * pev q x := by
  induction p with
  | nil => simp [pmul, pev]
  | cons a p ih => simp only [pmul, pev, pev_add, pev_smul, ih, Rat.intCast_zero]; grind

theorem pev_pow (p : List Int) (n : Nat) (x : Rat) : pev (ppow p n) x = pev p x ^ n := by
  induction n with
  | zero => simp [ppow, pev]; grind
  | succ n ih => simp only [ppow, pev_mul, ih, Rat.pow_succ]; grind

theorem pev_hcomp (W1 W2 : List Int) (x : Rat) (h : pev W2 x ≠ 0) (p : List Int) (n : Nat) (hn : p.length ≤ n + 1) :
    pev (hcomp W1 W2 p n) x = pev W2 x ^ n * pev p (pev W1 x / pev W2 x) := by
  induction p generalizing n with
  | nil => simp [hcomp, pev]
  | cons c p ih =>
    simp only [hcomp, pev_add, pev_smul, pev_mul, pev_pow]
    cases n with
    | zero =>
      have : p = [] := by simpa using hn
      subst this
      simp [hcomp, pev]
    | succ n =>
      simp only [List.length_cons] at hn
      rw [show n + 1 - 1 = n from rfl, ih n (by omega)]
      simp only [pev, Rat.pow_succ]
      have e : pev W1 x = pev W2 x * (pev W1 x / pev W2 x) := by grind
      generalize pev p (pev W1 x / pev W2 x) = y at *
      generalize pev W2 x ^ n = z at *
      generalize pev W1 x / pev W2 x = t at *
      rw [e]; grind

theorem abs_mul_le {a b A B : Rat} (h1 : -A ≤ a) (h2 : a ≤ A) (h3 : -B ≤ b) (h4 : b ≤ B) : -(A*B) ≤ a * b ∧ a * b ≤ A * B := by
  have p1 : 0 ≤ (A - a) * (B + b) := Rat.mul_nonneg (by grind) (by grind)
  have p2 : 0 ≤ (A + a) * (B - b) := Rat.mul_nonneg (by grind) (by grind)
  have p3 : 0 ≤ (A - a) * (B - b) := Rat.mul_nonneg (by grind) (by grind)
  have p4 : 0 ≤ (A + a) * (B + b) := Rat.mul_nonneg (by grind) (by grind)
  constructor <;> grind

theorem natAbs_cast (a : Int) : -((a.natAbs : Int) : Rat) ≤ (a : Rat) ∧ (a : Rat) ≤ ((a.natAbs : Int) : Rat) := by
  have h1 : -(a.natAbs : Int) ≤ a := by omega
  have h2 : a ≤ (a.natAbs : Int) := by omega
  have h1' := Rat.intCast_le_intCast.2 h1
  have h2' := Rat.intCast_le_intCast.2 h2
  rw [Rat.intCast_neg] at h1'
  exact ⟨h1', h2'⟩

theorem pev_bound (p : List Int) (x h : Rat) (h1 : -h ≤ x) (h2 : x ≤ h) : -(pev (pabs p) h) ≤ pev p x ∧ pev p x ≤ pev (pabs p) h := by
  induction p with
  | nil => simp [pabs, pev]
  | cons a p ih =>
    simp only [pabs, pev]
    have ha := natAbs_cast a
    have hm := abs_mul_le h1 h2 ih.1 ih.2
    grind

/-- a Lipschitz number on [-h, h] -/
def lip : List Int → Rat → Rat
  | [], _ => 0
  | _ :: p, h => pev (pabs p) h + h * lip p h

theorem lip_bound (p : List Int) (s t h : Rat) (h1 : -h ≤ s) (h2 : s ≤ h) (h3 : -h ≤ t) (h4 : t ≤ h) (hst : t ≤ s) :
    -((s - t) * lip p h) ≤ pev p s - pev p t ∧ pev p s - pev p t ≤ (s - t) * lip p h := by
  induction p with
  | nil => simp only [pev, lip]; constructor <;> grind
  | cons a p ih =>
    simp only [pev, lip]
    have hb := pev_bound p s h h1 h2
    have m1 := abs_mul_le (a := s - t) (A := s - t) (by grind) (by grind) hb.1 hb.2
    have m2 := abs_mul_le h3 h4 ih.1 ih.2
    grind

/-- 2^85 times 'log ((1 + s) / (1 - s))' as the program reckons it. -/
def Q : List Int := [0, 77371252455336267181195264, 0, 25790417485112353916715008, 0, 15474250490838783509921792, 0, 11053036131677770036019200, 0, 8596796625032193597505536, 0, 7034428761281873779359744, 0, 5924254013427871591170048, 0, 5724775800803401859596288]
/-- 2^85 times the logarithm of 2, as the program has it. -/
def LN : Int := 26814832747904039722237046

/-- numerator of 'Q (2s/(1+s^2)) - 2 Q s' over (1+s^2)^15 -/
def N1 : List Int := padd (hcomp [0, 2] [1, 0, 1] Q 15) (psmul (-2) (pmul Q (ppow [1, 0, 1] 15)))
def N2 : List Int := padd (padd (hcomp [-1, 6, -1] [3, -2, 3] Q 15) (psmul (-2) (pmul Q (ppow [3, -2, 3] 15)))) (psmul LN (ppow [3, -2, 3] 15))

/-- the polynomial in v where u = (a + v) / b, times b^length: shift -/
def shiftc (a b : Int) : List Int → List Int
  | [] => []
  | c :: p => padd [c] (pmul [a, 1] (shiftc a b p))

def iev (a b : Int) : List Int → Nat → Int
  | [], _ => 0
  | c :: p, n => c * b ^ n + a * iev a b p (n - 1)

theorem iev_eq (a b : Int) (hb : (b : Rat) ≠ 0) (p : List Int) (n : Nat) (hn : p.length ≤ n + 1) :
    ((iev a b p n : Int) : Rat) = (b : Rat) ^ n * pev p ((a : Rat) / (b : Rat)) := by
  induction p generalizing n with
  | nil => simp [iev, pev]
  | cons c p ih =>
    simp only [iev, pev, Rat.intCast_add, Rat.intCast_mul, Rat.intCast_pow]
    cases n with
    | zero =>
      have : p = [] := by simpa using hn
      subst this
      simp [iev, pev]
    | succ n =>
      simp only [List.length_cons] at hn
      rw [show n + 1 - 1 = n from rfl, ih n (by omega)]
      have e : (a : Rat) = (b : Rat) * ((a : Rat) / (b : Rat)) := by grind
      generalize pev p ((a : Rat) / (b : Rat)) = y at *
      generalize (a : Rat) / (b : Rat) = t at *
      rw [Rat.pow_succ]
      generalize (b : Rat) ^ n = z at *
      rw [e]; grind

theorem pev_le_of_iev (a b B : Int) (hb : 0 < b) (p : List Int) (n : Nat) (hn : p.length ≤ n + 1) (h : iev a b p n ≤ B * b ^ n) :
    pev p ((a : Rat) / (b : Rat)) ≤ (B : Rat) := by
  have hb' : (0 : Rat) < (b : Rat) := Rat.intCast_pos.2 hb
  have h1 := Rat.intCast_le_intCast.2 h
  rw [iev_eq a b (by grind) p n hn, Rat.intCast_mul, Rat.intCast_pow] at h1
  have hp : (0 : Rat) < (b : Rat) ^ n := Rat.pow_pos hb'
  exact Rat.le_of_mul_le_mul_left (c := (b : Rat) ^ n) (by grind) hp

theorem n1_bound : pev (pabs N1) (((173 : Int) : Rat)/((2000 : Int) : Rat)) ≤ ((10300000000000 : Int) : Rat) := by
  refine pev_le_of_iev _ _ _ (by decide) _ 60 (by decide +kernel) (by decide +kernel)

theorem pow_ge_one {d : Rat} (h : 1 ≤ d) (n : Nat) : 1 ≤ d ^ n := by
  induction n with
  | zero => simp
  | succ n ih =>
    rw [Rat.pow_succ]
    have := Rat.mul_nonneg (a := d ^ n - 1) (b := d - 1) (by grind) (by grind)
    grind

theorem bound_div {D y B : Rat} (h : 1 ≤ D) (h1 : -B ≤ D * y) (h2 : D * y ≤ B) (hB : 0 ≤ B) : -B ≤ y ∧ y ≤ B := by
  constructor
  · refine Rat.not_lt.1 fun h' => ?_
    have p := Rat.mul_nonneg (a := D - 1) (b := -B - y) (by grind) (by grind)
    have p2 := Rat.mul_nonneg (a := D - 1) (b := B) (by grind) (by grind)
    grind
  · refine Rat.not_lt.1 fun h' => ?_
    have p := Rat.mul_nonneg (a := D - 1) (b := y - B) (by grind) (by grind)
    have p2 := Rat.mul_nonneg (a := D - 1) (b := B) (by grind) (by grind)
    grind

theorem sq_nonneg (s : Rat) : 0 ≤ s * s := by
  rcases Rat.le_total (a := 0) (b := s) with h | h
  · exact Rat.mul_nonneg h h
  · have := Rat.mul_nonneg (a := -s) (b := -s) (by grind) (by grind)
    grind

theorem d1 (s : Rat) (h1 : -(173/2000) ≤ s) (h2 : s ≤ 173/2000) :
    -10300000000000 ≤ pev Q (2*s/(1+s*s)) - 2 * pev Q s ∧ pev Q (2*s/(1+s*s)) - 2 * pev Q s ≤ 10300000000000 := by
  have hs := sq_nonneg s
  have e2 : pev [1, 0, 1] s = 1 + s * s := by simp [pev]; grind
  have e1 : pev [0, 2] s = 2 * s := by simp [pev]; grind
  have key : pev N1 s = (1 + s * s) ^ 15 * (pev Q (2*s/(1+s*s)) - 2 * pev Q s) := by
    unfold N1
    rw [pev_add, pev_hcomp _ _ _ (by rw [e2]; grind) _ _ (by decide), pev_smul, pev_mul, pev_pow, e1, e2]
    simp only [Rat.intCast_neg, Rat.intCast_ofNat]
    grind
  have hb := pev_bound N1 s (((173 : Int) : Rat)/((2000 : Int) : Rat)) (by simpa using h1) (by simpa using h2)
  have hn := n1_bound
  rw [key] at hb
  have hD := pow_ge_one (d := 1 + s * s) (by grind) 15
  simp only [Rat.intCast_ofNat] at hn hb
  exact bound_div hD (by grind) (by grind) (by decide)

theorem n2_bound : pev (pabs (hcomp [253, 1] [2000] N2 45)) (((93 : Int) : Rat)/((1 : Int) : Rat)) ≤ (((2000000000000 * 5000 ^ 15 * 2000 ^ 30) : Int) : Rat) := by
  refine pev_le_of_iev _ _ _ (by decide) _ 60 (by decide +kernel) (by decide +kernel)

theorem d2 (u : Rat) (h1 : 80/1000 ≤ u) (h2 : u ≤ 173/1000) :
    -2000000000000 ≤ pev Q ((-1+6*u-u*u)/(3-2*u+3*u*u)) - 2 * pev Q u + (LN : Rat) ∧
      pev Q ((-1+6*u-u*u)/(3-2*u+3*u*u)) - 2 * pev Q u + (LN : Rat) ≤ 2000000000000 := by
  have e2 : pev [3, -2, 3] u = 3 - 2 * u + 3 * u * u := by simp [pev]; grind
  have e1 : pev [-1, 6, -1] u = -1 + 6 * u - u * u := by simp [pev]; grind
  have hd : (5/2 : Rat) ≤ 3 - 2 * u + 3 * u * u := by
    have := sq_nonneg (u - 1/3)
    grind
  have key : pev N2 u = (3-2*u+3*u*u) ^ 15 * (pev Q ((-1+6*u-u*u)/(3-2*u+3*u*u)) - 2 * pev Q u + (LN : Rat)) := by
    unfold N2
    rw [pev_add, pev_add, pev_hcomp _ _ _ (by rw [e2]; grind) _ _ (by decide), pev_smul, pev_smul, pev_mul, pev_pow, e1, e2]
    simp only [Rat.intCast_neg, Rat.intCast_ofNat]
    grind
  have hc := pev_hcomp [253, 1] [2000] (2000 * u - 253) (by simp only [pev, Rat.intCast_ofNat]; grind) N2 45 (by decide +kernel)
  have ew : pev [253, 1] (2000 * u - 253) / pev [2000] (2000 * u - 253) = u := by
    simp only [pev, Rat.intCast_ofNat]; grind
  have ed : pev [2000] (2000 * u - 253) = 2000 := by simp only [pev, Rat.intCast_ofNat]; grind
  rw [ew, ed, key] at hc
  have hb := pev_bound (hcomp [253, 1] [2000] N2 45) (2000 * u - 253) (((93 : Int) : Rat)/((1 : Int) : Rat)) (by simp; grind) (by simp; grind)
  have hn := n2_bound
  rw [hc] at hb
  generalize pev (pabs (hcomp [253, 1] [2000] N2 45)) (((93 : Int) : Rat)/((1 : Int) : Rat)) = Z at hb hn
  clear hc key ew ed e1 e2
  have hD := pow_ge_one (d := (2/5) * (3-2*u+3*u*u)) (by grind) 15
  have hp : ((2/5) * (3-2*u+3*u*u)) ^ 15 = (2/5) ^ 15 * (3-2*u+3*u*u) ^ 15 := by grind
  rw [hp] at hD
  generalize (3-2*u+3*u*u) ^ 15 = D at *
  generalize pev Q ((-1+6*u-u*u)/(3-2*u+3*u*u)) - 2 * pev Q u + (LN : Rat) = y at *
  simp only [Rat.intCast_mul, Rat.intCast_pow, Rat.intCast_ofNat] at hn
  refine bound_div hD ?_ ?_ (by decide)
  · grind
  · grind

theorem lip_Q (s t : Rat) (h1 : -(1/5) ≤ t) (h2 : s ≤ 1/5) (hst : t ≤ s) :
    -((s - t) * 85000000000000000000000000) ≤ pev Q s - pev Q t ∧ pev Q s - pev Q t ≤ (s - t) * 85000000000000000000000000 := by
  have h := lip_bound Q s t (((1 : Int) : Rat)/((5 : Int) : Rat)) (by simp; grind) (by simp; grind) (by simp; grind) (by simp; grind) hst
  have hl : lip Q (((1 : Int) : Rat)/((5 : Int) : Rat)) ≤ 85000000000000000000000000 := by
    unfold Q
    simp only [lip, pabs, pev]
    decide +kernel
  have := Rat.mul_le_mul_of_nonneg_left (c := s - t) hl (by grind)
  grind

/-- the odd law -/
theorem odd_Q (s : Rat) : pev Q (-s) = - pev Q s := by
  unfold Q; simp only [pev, Rat.intCast_ofNat]; grind

end Go.Proofs.YtlpddogcnpokfaaGreat.Lg
