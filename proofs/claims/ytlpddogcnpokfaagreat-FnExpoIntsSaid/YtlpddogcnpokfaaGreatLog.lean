/- Polynomials over whole numbers at rational places; that the polynomial by which the program reckons a logarithm doubles where its argument is squared, but for a bounded fault. The logarithm of a number from 1 to 2 as the program reckons it: what a square does to it, within a bound. The digits of a logarithm that are found by squares say between which two whole numbers the scaled logarithm lies, where the last square is not near 1 or 2. -/
namespace Go.Proofs.YtlpddogcnpokfaaGreat.Lg

def pev : List Int → Rat → Rat
  | [], _ => 0
  | c :: p, x => (c : Rat) + x * pev p x

def padd : List Int → List Int → List Int
  | [], q => q
  | p, [] => p
  | a :: p, b :: q => (a + b) :: padd p q

def psmul (c : Int) : List Int → List Int
  | [] => []
  | a :: p => (c * a) :: psmul c p

def pmul : List Int → List Int → List Int
  | [], _ => []
  | a :: p, q => padd (psmul a q) (0 :: pmul p q)

def ppow (p : List Int) : Nat → List Int
  | 0 => [1]
  | n + 1 => pmul p (ppow p n)

/-- 'Σ c_j W1^j W2^(n-j)' -/
def hcomp (W1 W2 : List Int) : List Int → Nat → List Int
  | [], _ => []
  | c :: p, n => padd (psmul c (ppow W2 n)) (pmul W1 (hcomp W1 W2 p (n - 1)))

def pabs : List Int → List Int
  | [] => []
  | a :: p => (a.natAbs : Int) :: pabs p

theorem pev_add (p q : List Int) (x : Rat) : pev (padd p q) x = pev p x + pev q x := by
  induction p generalizing q with
  | nil => simp [padd, pev]; grind
  | cons a p ih =>
    cases q with
    | nil => simp [padd, pev, Rat.add_zero]
    | cons b q => simp only [padd, pev, ih, Rat.intCast_add]; grind

theorem pev_smul (c : Int) (p : List Int) (x : Rat) : pev (psmul c p) x = c * pev p x := by
  induction p with
  | nil => simp [psmul, pev]
  | cons a p ih => simp only [psmul, pev, ih, Rat.intCast_mul]; grind

theorem pev_mul (p q : List Int) (x : Rat) : pev (pmul p q) x = pev p x * pev q x := by
  induction p with
  | nil => simp [pmul, pev]
  | cons a p ih => simp only [pmul, pev, pev_add, pev_smul, ih, Rat.intCast_zero]; grind

theorem pev_pow (p : List Int) (n : Nat) (x : Rat) : pev (ppow p n) x = pev p x ^ n := by
  induction n with
  | zero => simp [ppow, pev]; grind
  | succ n ih => simp only [ppow, pev_mul, ih, Rat.pow_succ]; grind

theorem pev_hcomp (W1 W2 : List Int) (x : Rat) (h : pev W2 x ≠ 0) (p : List Int) (n : Nat) (hn : p.length ≤ n + 1) :
    pev (hcomp W1 W2 p n) x = pev W2 x ^ n * pev p (pev W1 x / pev W2 x) := by
  induction p generalizing n with
  | nil => simp [hcomp, pev]
  | cons c p ih =>
    simp only [hcomp, pev_add, pev_smul, pev_mul, pev_pow]
    cases n with
    | zero =>
      have : p = [] := by simpa using hn
      subst this
      simp [hcomp, pev]
    | succ n =>
      simp only [List.length_cons] at hn
      rw [show n + 1 - 1 = n from rfl, ih n (by omega)]
      simp only [pev, Rat.pow_succ]
      have e : pev W1 x = pev W2 x * (pev W1 x / pev W2 x) := by grind
      generalize pev p (pev W1 x / pev W2 x) = y at *
      generalize pev W2 x ^ n = z at *
      generalize pev W1 x / pev W2 x = t at *
      rw [e]; grind

theorem abs_mul_le {a b A B : Rat} (h1 : -A ≤ a) (h2 : a ≤ A) (h3 : -B ≤ b) (h4 : b ≤ B) : -(A*B) ≤ a * b ∧ a * b ≤ A * B := by
  have p1 : 0 ≤ (A - a) * (B + b) := Rat.mul_nonneg (by grind) (by grind)
  have p2 : 0 ≤ (A + a) * (B - b) := Rat.mul_nonneg (by grind) (by grind)
  have p3 : 0 ≤ (A - a) * (B - b) := Rat.mul_nonneg (by grind) (by grind)
  have p4 : 0 ≤ (A + a) * (B + b) := Rat.mul_nonneg (by grind) (by grind)
  constructor <;> grind

theorem natAbs_cast (a : Int) : -((a.natAbs : Int) : Rat) ≤ (a : Rat) ∧ (a : Rat) ≤ ((a.natAbs : Int) : Rat) := by
  have h1 : -(a.natAbs : Int) ≤ a := by omega
  have h2 : a ≤ (a.natAbs : Int) := by omega
  have h1' := Rat.intCast_le_intCast.2 h1
  have h2' := Rat.intCast_le_intCast.2 h2
  rw [Rat.intCast_neg] at h1'
  exact ⟨h1', h2'⟩

theorem pev_bound (p : List Int) (x h : Rat) (h1 : -h ≤ x) (h2 : x ≤ h) : -(pev (pabs p) h) ≤ pev p x ∧ pev p x ≤ pev (pabs p) h := by
  induction p with
  | nil => simp [pabs, pev]
  | cons a p ih =>
    simp only [pabs, pev]
    have ha := natAbs_cast a
    have hm := abs_mul_le h1 h2 ih.1 ih.2
    grind

/-- a Lipschitz number on [-h, h] -/
def lip : List Int → Rat → Rat
  | [], _ => 0
  | _ :: p, h => pev (pabs p) h + h * lip p h

theorem lip_bound (p : List Int) (s t h : Rat) (h1 : -h ≤ s) (h2 : s ≤ h) (h3 : -h ≤ t) (h4 : t ≤ h) (hst : t ≤ s) :
    -((s - t) * lip p h) ≤ pev p s - pev p t ∧ pev p s - pev p t ≤ (s - t) * lip p h := by
  induction p with
  | nil => simp only [pev, lip]; constructor <;> grind
  | cons a p ih =>
    simp only [pev, lip]
    have hb := pev_bound p s h h1 h2
    have m1 := abs_mul_le (a := s - t) (A := s - t) (by grind) (by grind) hb.1 hb.2
    have m2 := abs_mul_le h3 h4 ih.1 ih.2
    grind

/-- 2^85 times 'log ((1 + s) / (1 - s))' as the program reckons it. -/
def Q : List Int := [0, 77371252455336267181195264, 0, 25790417485112353916715008, 0, 15474250490838783509921792, 0, 11053036131677770036019200, 0, 8596796625032193597505536, 0, 7034428761281873779359744, 0, 5924254013427871591170048, 0, 5724775800803401859596288]
/-- 2^85 times the logarithm of 2, as the program has it. -/
def LN : Int := 26814832747904039722237046

/-- numerator of 'Q (2s/(1+s^2)) - 2 Q s' over (1+s^2)^15 -/
def N1 : List Int := padd (hcomp [0, 2] [1, 0, 1] Q 15) (psmul (-2) (pmul Q (ppow [1, 0, 1] 15)))
def N2 : List Int := padd (padd (hcomp [-1, 6, -1] [3, -2, 3] Q 15) (psmul (-2) (pmul Q (ppow [3, -2, 3] 15)))) (psmul LN (ppow [3, -2, 3] 15))

/-- the polynomial in v where u = (a + v) / b, times b^length: shift -/
def shiftc (a b : Int) : List Int → List Int
  | [] => []
  | c :: p => padd [c] (pmul [a, 1] (shiftc a b p))

def iev (a b : Int) : List Int → Nat → Int
  | [], _ => 0
  | c :: p, n => c * b ^ n + a * iev a b p (n - 1)

theorem iev_eq (a b : Int) (hb : (b : Rat) ≠ 0) (p : List Int) (n : Nat) (hn : p.length ≤ n + 1) :
    ((iev a b p n : Int) : Rat) = (b : Rat) ^ n * pev p ((a : Rat) / (b : Rat)) := by
  induction p generalizing n with
  | nil => simp [iev, pev]
  | cons c p ih =>
    simp only [iev, pev, Rat.intCast_add, Rat.intCast_mul, Rat.intCast_pow]
    cases n with
    | zero =>
      have : p = [] := by simpa using hn
      subst this
      simp [iev, pev]
    | succ n =>
      simp only [List.length_cons] at hn
      rw [show n + 1 - 1 = n from rfl, ih n (by omega)]
      have e : (a : Rat) = (b : Rat) * ((a : Rat) / (b : Rat)) := by grind
      generalize pev p ((a : Rat) / (b : Rat)) = y at *
      generalize (a : Rat) / (b : Rat) = t at *
      rw [Rat.pow_succ]
      generalize (b : Rat) ^ n = z at *
      rw [e]; grind

theorem pev_le_of_iev (a b B : Int) (hb : 0 < b) (p : List Int) (n : Nat) (hn : p.length ≤ n + 1) (h : iev a b p n ≤ B * b ^ n) :
    pev p ((a : Rat) / (b : Rat)) ≤ (B : Rat) := by
  have hb' : (0 : Rat) < (b : Rat) := Rat.intCast_pos.2 hb
  have h1 := Rat.intCast_le_intCast.2 h
  rw [iev_eq a b (by grind) p n hn, Rat.intCast_mul, Rat.intCast_pow] at h1
  have hp : (0 : Rat) < (b : Rat) ^ n := Rat.pow_pos hb'
  exact Rat.le_of_mul_le_mul_left (c := (b : Rat) ^ n) (by grind) hp

theorem n1_bound : pev (pabs N1) (((173 : Int) : Rat)/((2000 : Int) : Rat)) ≤ ((10300000000000 : Int) : Rat) := by
  refine pev_le_of_iev _ _ _ (by decide) _ 60 (by decide +kernel) (by decide +kernel)

theorem pow_ge_one {d : Rat} (h : 1 ≤ d) (n : Nat) : 1 ≤ d ^ n := by
  induction n with
  | zero => simp
  | succ n ih =>
    rw [Rat.pow_succ]
    have := Rat.mul_nonneg (a := d ^ n - 1) (b := d - 1) (by grind) (by grind)
    grind

theorem bound_div {D y B : Rat} (h : 1 ≤ D) (h1 : -B ≤ D * y) (h2 : D * y ≤ B) (hB : 0 ≤ B) : -B ≤ y ∧ y ≤ B := by
  constructor
  · refine Rat.not_lt.1 fun h' => ?_
    have p := Rat.mul_nonneg (a := D - 1) (b := -B - y) (by grind) (by grind)
    have p2 := Rat.mul_nonneg (a := D - 1) (b := B) (by grind) (by grind)
    grind
  · refine Rat.not_lt.1 fun h' => ?_
    have p := Rat.mul_nonneg (a := D - 1) (b := y - B) (by grind) (by grind)
    have p2 := Rat.mul_nonneg (a := D - 1) (b := B) (by grind) (by grind)
    grind

theorem sq_nonneg (s : Rat) : 0 ≤ s * s := by
  rcases Rat.le_total (a := 0) (b := s) with h | h
  · exact Rat.mul_nonneg h h
  · have := Rat.mul_nonneg (a := -s) (b := -s) (by grind) (by grind)
    grind

theorem d1 (s : Rat) (h1 : -(173/2000) ≤ s) (h2 : s ≤ 173/2000) :
    -10300000000000 ≤ pev Q (2*s/(1+s*s)) - 2 * pev Q s ∧ pev Q (2*s/(1+s*s)) - 2 * pev Q s ≤ 10300000000000 := by
  have hs := sq_nonneg s
  have e2 : pev [1, 0, 1] s = 1 + s * s := by simp [pev]; grind
  have e1 : pev [0, 2] s = 2 * s := by simp [pev]; grind
  have key : pev N1 s = (1 + s * s) ^ 15 * (pev Q (2*s/(1+s*s)) - 2 * pev Q s) := by
    unfold N1
    rw [pev_add, pev_hcomp _ _ _ (by rw [e2]; grind) _ _ (by decide), pev_smul, pev_mul, pev_pow, e1, e2]
    simp only [Rat.intCast_neg, Rat.intCast_ofNat]
    grind
  have hb := pev_bound N1 s (((173 : Int) : Rat)/((2000 : Int) : Rat)) (by simpa using h1) (by simpa using h2)
  have hn := n1_bound
  rw [key] at hb
  have hD := pow_ge_one (d := 1 + s * s) (by grind) 15
  simp only [Rat.intCast_ofNat] at hn hb
  exact bound_div hD (by grind) (by grind) (by decide)

theorem n2_bound : pev (pabs (hcomp [253, 1] [2000] N2 45)) (((93 : Int) : Rat)/((1 : Int) : Rat)) ≤ (((2000000000000 * 5000 ^ 15 * 2000 ^ 30) : Int) : Rat) := by
  refine pev_le_of_iev _ _ _ (by decide) _ 60 (by decide +kernel) (by decide +kernel)

theorem d2 (u : Rat) (h1 : 80/1000 ≤ u) (h2 : u ≤ 173/1000) :
    -2000000000000 ≤ pev Q ((-1+6*u-u*u)/(3-2*u+3*u*u)) - 2 * pev Q u + (LN : Rat) ∧
      pev Q ((-1+6*u-u*u)/(3-2*u+3*u*u)) - 2 * pev Q u + (LN : Rat) ≤ 2000000000000 := by
  have e2 : pev [3, -2, 3] u = 3 - 2 * u + 3 * u * u := by simp [pev]; grind
  have e1 : pev [-1, 6, -1] u = -1 + 6 * u - u * u := by simp [pev]; grind
  have hd : (5/2 : Rat) ≤ 3 - 2 * u + 3 * u * u := by
    have := sq_nonneg (u - 1/3)
    grind
  have key : pev N2 u = (3-2*u+3*u*u) ^ 15 * (pev Q ((-1+6*u-u*u)/(3-2*u+3*u*u)) - 2 * pev Q u + (LN : Rat)) := by
    unfold N2
    rw [pev_add, pev_add, pev_hcomp _ _ _ (by rw [e2]; grind) _ _ (by decide), pev_smul, pev_smul, pev_mul, pev_pow, e1, e2]
    simp only [Rat.intCast_neg, Rat.intCast_ofNat]
    grind
  have hc := pev_hcomp [253, 1] [2000] (2000 * u - 253) (by simp only [pev, Rat.intCast_ofNat]; grind) N2 45 (by decide +kernel)
  have ew : pev [253, 1] (2000 * u - 253) / pev [2000] (2000 * u - 253) = u := by
    simp only [pev, Rat.intCast_ofNat]; grind
  have ed : pev [2000] (2000 * u - 253) = 2000 := by simp only [pev, Rat.intCast_ofNat]; grind
  rw [ew, ed, key] at hc
  have hb := pev_bound (hcomp [253, 1] [2000] N2 45) (2000 * u - 253) (((93 : Int) : Rat)/((1 : Int) : Rat)) (by simp; grind) (by simp; grind)
  have hn := n2_bound
  rw [hc] at hb
  generalize pev (pabs (hcomp [253, 1] [2000] N2 45)) (((93 : Int) : Rat)/((1 : Int) : Rat)) = Z at hb hn
  clear hc key ew ed e1 e2
  have hD := pow_ge_one (d := (2/5) * (3-2*u+3*u*u)) (by grind) 15
  have hp : ((2/5) * (3-2*u+3*u*u)) ^ 15 = (2/5) ^ 15 * (3-2*u+3*u*u) ^ 15 := by grind
  rw [hp] at hD
  generalize (3-2*u+3*u*u) ^ 15 = D at *
  generalize pev Q ((-1+6*u-u*u)/(3-2*u+3*u*u)) - 2 * pev Q u + (LN : Rat) = y at *
  simp only [Rat.intCast_mul, Rat.intCast_pow, Rat.intCast_ofNat] at hn
  refine bound_div hD ?_ ?_ (by decide)
  · grind
  · grind

theorem lip_Q (s t : Rat) (h1 : -(1/5) ≤ t) (h2 : s ≤ 1/5) (hst : t ≤ s) :
    -((s - t) * 85000000000000000000000000) ≤ pev Q s - pev Q t ∧ pev Q s - pev Q t ≤ (s - t) * 85000000000000000000000000 := by
  have h := lip_bound Q s t (((1 : Int) : Rat)/((5 : Int) : Rat)) (by simp; grind) (by simp; grind) (by simp; grind) (by simp; grind) hst
  have hl : lip Q (((1 : Int) : Rat)/((5 : Int) : Rat)) ≤ 85000000000000000000000000 := by
    unfold Q
    simp only [lip, pabs, pev]
    decide +kernel
  have := Rat.mul_le_mul_of_nonneg_left (c := s - t) hl (by grind)
  grind

/-- the odd law -/
theorem odd_Q (s : Rat) : pev Q (-s) = - pev Q s := by
  unfold Q; simp only [pev, Rat.intCast_ofNat]; grind

end Go.Proofs.YtlpddogcnpokfaaGreat.Lg
namespace Go.Proofs.YtlpddogcnpokfaaGreat.Lg

/-- twice the least number of the program's half of the square root of two -/
def CC : Rat := 6369051672525773 / 4503599627370496

def sv (x : Rat) : Rat := (x - 1) / (x + 1)

/-- 2^85 times the logarithm of a number from 1 to 2, as the program reckons it -/
def el (x : Rat) : Rat := if x ≤ CC then pev Q (sv x) else (LN : Rat) + pev Q (sv (x / 2))

theorem div_le_iff' {a b c : Rat} (hb : 0 < b) : a / b ≤ c ↔ a ≤ c * b := by
  have := Rat.lt_div_iff (a := c) (b := a) hb
  constructor
  · intro h; exact Rat.not_lt.1 fun h' => by have := this.2 h'; grind
  · intro h; exact Rat.not_lt.1 fun h' => by have := this.1 h'; grind
theorem le_div_iff' {a b c : Rat} (hb : 0 < b) : c ≤ a / b ↔ c * b ≤ a := by
  have := Rat.div_lt_iff (a := a) (c := c) hb
  constructor
  · intro h; exact Rat.not_lt.1 fun h' => by have := this.2 h'; grind
  · intro h; exact Rat.not_lt.1 fun h' => by have := this.1 h'; grind

theorem sv_sq (x : Rat) (h : 0 < x) : sv (x * x) = 2 * sv x / (1 + sv x * sv x) := by
  have := sq_nonneg x
  have h2 := sq_nonneg (x - 1)
  have hs := sq_nonneg (sv x)
  have e : sv x * (x + 1) = x - 1 := by unfold sv; grind
  have e2 : sv (x * x) * (x * x + 1) = x * x - 1 := by unfold sv; grind
  generalize sv x = s at *
  generalize sv (x * x) = t at *
  have e3 : (1 + s * s) * ((x + 1) * (x + 1)) = 2 * (x * x + 1) := by grind
  have e4 : t * (1 + s * s) = 2 * s := by
    have : (t * (1 + s * s) - 2 * s) * ((x + 1) * (x + 1)) = 0 := by grind
    rcases Rat.mul_eq_zero.1 this with h | h
    · grind
    · have : 0 < (x + 1) * (x + 1) := Rat.mul_pos (by grind) (by grind)
      grind
  grind

theorem sv_half_sq (x : Rat) (h : 0 < x) : sv (x * x / 2) = (-1 + 6 * sv x - sv x * sv x) / (3 - 2 * sv x + 3 * sv x * sv x) := by
  have := sq_nonneg x
  have hs := sq_nonneg (sv x - 1/3)
  have e : sv x * (x + 1) = x - 1 := by unfold sv; grind
  have e2 : sv (x * x / 2) * (x * x / 2 + 1) = x * x / 2 - 1 := by unfold sv; grind
  generalize sv x = s at *
  generalize sv (x * x / 2) = t at *
  have e4 : t * (3 - 2 * s + 3 * s * s) = (-1 + 6 * s - s * s) := by
    have : (t * (3 - 2 * s + 3 * s * s) - (-1 + 6 * s - s * s)) * ((x + 1) * (x + 1)) = 0 := by grind
    rcases Rat.mul_eq_zero.1 this with h | h
    · grind
    · have : 0 < (x + 1) * (x + 1) := Rat.mul_pos (by grind) (by grind)
      grind
  grind

theorem sv_inv (x : Rat) (h : 0 < x) : sv (1 / x) = - sv x := by
  have e : sv x * (x + 1) = x - 1 := by unfold sv; grind
  have hx : 1 / x * x = 1 := by grind
  have hp : 0 < 1 / x := by
    have := (Rat.lt_div_iff (a := 0) (b := 1) (c := x) h).2 (by grind); exact this
  have e2 : sv (1 / x) * (1 / x + 1) = 1 / x - 1 := by unfold sv; grind
  generalize 1 / x = y at *
  generalize sv x = s at *
  generalize sv y = t at *
  have : (t + s) * (x + 1) = 0 := by
    have : t * (1 + x) = 1 - x := by
      have h3 : (t * (y + 1)) * x = (y - 1) * x := by rw [e2]
      grind
    grind
  rcases Rat.mul_eq_zero.1 this with h | h <;> grind

/-- bounds of 'sv' -/
theorem sv_le {x c : Rat} (h : 0 < x) (hx : x * (1 - c) ≤ 1 + c) : sv x ≤ c := by
  unfold sv; rw [div_le_iff' (by grind)]; grind
theorem le_sv {x c : Rat} (h : 0 < x) (hx : 1 + c ≤ x * (1 - c)) : c ≤ sv x := by
  unfold sv; rw [le_div_iff' (by grind)]; grind

theorem mul_mono {a b c d : Rat} (h0 : 0 ≤ a) (h1 : a ≤ b) (h2 : 0 ≤ c) (h3 : c ≤ d) : a * c ≤ b * d := by
  have p := Rat.mul_nonneg (a := b - a) (b := d) (by grind) (by grind)
  have p2 := Rat.mul_nonneg (a := a) (b := d - c) (by grind) (by grind)
  grind

/-- a square at most that of a number above 0 -/
theorem le_of_sq_le {a b : Rat} (hb : 0 ≤ b) (h : a * a ≤ b * b) : a ≤ b := by
  refine Rat.not_lt.1 fun h' => ?_
  have p := Rat.mul_pos (a := a - b) (b := a + b) (by grind) (by grind)
  grind
theorem lt_of_sq_lt {a b : Rat} (hb : 0 ≤ b) (h : a * a < b * b) : a < b := by
  refine Rat.not_le.1 fun h' => ?_
  have p := Rat.mul_nonneg (a := a - b) (b := a + b) (by grind) (by grind)
  grind

theorem el_lo (x : Rat) (h1 : 1 ≤ x) (h : x * x < 2) : -10300000000000 ≤ 2 * el x - el (x * x) ∧ 2 * el x - el (x * x) ≤ 10300000000000 := by
  have hx : x ≤ CC := le_of_sq_le (by unfold CC; grind) (by unfold CC; grind)
  have e1 : el x = pev Q (sv x) := by unfold el; rw [if_pos hx]
  have hs0 : 0 ≤ sv x := le_sv (by grind) (by grind)
  rw [e1]
  by_cases h2 : x * x ≤ CC
  · have e2 : el (x * x) = pev Q (sv (x * x)) := by unfold el; rw [if_pos h2]
    have hb : x ≤ 11893/10000 := le_of_sq_le (by grind) (by unfold CC at h2; grind)
    have hs1 : sv x ≤ 173/2000 := sv_le (by grind) (by grind)
    have := d1 (sv x) (by grind) hs1
    rw [e2, sv_sq x (by grind)]
    grind
  · have e2 : el (x * x) = (LN : Rat) + pev Q (sv (x * x / 2)) := by unfold el; rw [if_neg h2]
    have hb : 1174/1000 ≤ x := le_of_sq_le (by grind) (by unfold CC at h2; grind)
    have hs1 : 80/1000 ≤ sv x := le_sv (by grind) (by grind)
    have hs2 : sv x ≤ 173/1000 := sv_le (by grind) (by unfold CC at hx; grind)
    have := d2 (sv x) hs1 hs2
    rw [e2, sv_half_sq x (by grind)]
    grind

theorem el_hi (x : Rat) (h1 : 1 ≤ x) (h0 : x < 2) (h : 2 ≤ x * x) :
    -10300000000000 ≤ 2 * el x - (LN : Rat) - el (x * x / 2) ∧ 2 * el x - (LN : Rat) - el (x * x / 2) ≤ 10300000000000 := by
  by_cases hx : x ≤ CC
  · have e1 : el x = pev Q (sv x) := by unfold el; rw [if_pos hx]
    have hm := mul_mono (a := x) (b := CC) (c := x) (d := CC) (by grind) hx (by grind) hx
    have h2 : x * x / 2 ≤ CC := by unfold CC at *; grind
    have e2 : el (x * x / 2) = pev Q (sv (x * x / 2)) := by unfold el; rw [if_pos h2]
    have hb : 1174/1000 ≤ x := le_of_sq_le (by grind) (by grind)
    have hs1 : 80/1000 ≤ sv x := le_sv (by grind) (by grind)
    have hs2 : sv x ≤ 173/1000 := sv_le (by grind) (by unfold CC at hx; grind)
    have := d2 (sv x) hs1 hs2
    rw [e1, e2, sv_half_sq x (by grind)]
    grind
  · have e1 : el x = (LN : Rat) + pev Q (sv (x / 2)) := by unfold el; rw [if_neg hx]
    have hx' : CC < x := Rat.not_le.1 hx
    have hp : 0 < 1 / (x / 2) := by
      have := (Rat.lt_div_iff (a := 0) (b := 1) (c := x / 2) (by grind)).2 (by grind); exact this
    have ei := sv_inv (x / 2) (by grind)
    have ez : 1 / (x / 2) * (x / 2) = 1 := by grind
    by_cases h2 : x * x / 2 ≤ CC
    · have e2 : el (x * x / 2) = pev Q (sv (x * x / 2)) := by unfold el; rw [if_pos h2]
      -- z = 2 / x
      have hzz : 1 / (x / 2) * (1 / (x / 2)) / 2 * (x * x / 2) = 1 := by grind
      have hi : 1 / (x * x / 2) = 1 / (x / 2) * (1 / (x / 2)) / 2 := by
        have h3 : 1 / (x * x / 2) * (x * x / 2) = 1 := by grind
        generalize 1 / (x * x / 2) = p at *
        generalize 1 / (x / 2) * (1 / (x / 2)) / 2 = q at *
        have : (p - q) * (x * x / 2) = 0 := by grind
        rcases Rat.mul_eq_zero.1 this with h | h <;> grind
      have es := sv_inv (x * x / 2) (by grind)
      rw [hi, sv_half_sq _ hp, ei] at es
      have hb : x ≤ 16818/10000 := le_of_sq_le (by grind) (by unfold CC at h2; grind)
      have hs1 : sv (x / 2) ≤ -(80/1000) := sv_le (by grind) (by grind)
      have hs2 : -(173/1000) ≤ sv (x / 2) := le_sv (by grind) (by unfold CC at hx'; grind)
      have := d2 (- sv (x / 2)) (by grind) (by grind)
      rw [es, odd_Q, odd_Q] at this
      rw [e1, e2]
      grind
    · have e2 : el (x * x / 2) = (LN : Rat) + pev Q (sv (x * x / 2 / 2)) := by unfold el; rw [if_neg h2]
      have hb : 16817/10000 ≤ x := le_of_sq_le (by grind) (by unfold CC at h2; grind)
      have hs1 : -(173/2000) ≤ sv (x / 2) := le_sv (by grind) (by grind)
      have hs2 : sv (x / 2) ≤ 0 := sv_le (by grind) (by grind)
      have := d1 (sv (x / 2)) hs1 (by grind)
      rw [e1, e2, show x * x / 2 / 2 = (x / 2) * (x / 2) from by grind, sv_sq _ (by grind)]
      grind
end Go.Proofs.YtlpddogcnpokfaaGreat.Lg
namespace Go.Proofs.YtlpddogcnpokfaaGreat.Lg

theorem sv_diff {a b : Rat} (hb : 1/2 ≤ b) (h : b ≤ a) : 0 ≤ sv a - sv b ∧ sv a - sv b ≤ a - b := by
  have e : sv a * (a + 1) = a - 1 := by unfold sv; grind
  have e2 : sv b * (b + 1) = b - 1 := by unfold sv; grind
  generalize sv a = s at *
  generalize sv b = t at *
  have k : (s - t) * ((a + 1) * (b + 1)) = 2 * (a - b) := by grind
  have p : 0 < (a + 1) * (b + 1) := Rat.mul_pos (by grind) (by grind)
  have p2 : 9/4 ≤ (a + 1) * (b + 1) := by
    have := mul_mono (a := 3/2) (b := a + 1) (c := 3/2) (d := b + 1) (by grind) (by grind) (by grind) (by grind)
    grind
  generalize (a + 1) * (b + 1) = d at *
  have h0 : 0 ≤ s - t := by
    refine Rat.not_lt.1 fun h' => ?_
    have := Rat.mul_pos (a := t - s) (b := d) (by grind) p
    grind
  refine ⟨h0, ?_⟩
  have := Rat.mul_nonneg (a := s - t) (b := d - 9/4) h0 (by grind)
  grind

theorem Q_diff {a b : Rat} (hb : 7/10 ≤ b) (h : b ≤ a) (ha : a ≤ 3/2) (hd : a - b ≤ 1/9223372036854775808) :
    -10000000 ≤ pev Q (sv a) - pev Q (sv b) ∧ pev Q (sv a) - pev Q (sv b) ≤ 10000000 := by
  have h1 := sv_diff (a := a) (b := b) (by grind) h
  have l := lip_Q (sv a) (sv b) (le_sv (by grind) (by grind)) (sv_le (by grind) (by grind)) (by grind)
  grind

theorem jump : -300000000 ≤ pev Q (sv CC) - ((LN : Rat) + pev Q (sv (CC / 2))) ∧ pev Q (sv CC) - ((LN : Rat) + pev Q (sv (CC / 2))) ≤ 300000000 := by
  constructor <;> decide +kernel

theorem el_diff {a b : Rat} (hb : 1 ≤ b) (h : b ≤ a) (ha : a < 2) (hd : a - b ≤ 1/9223372036854775808) : -400000000 ≤ el a - el b ∧ el a - el b ≤ 400000000 := by
  by_cases h1 : a ≤ CC
  · have h2 : b ≤ CC := by grind
    unfold el; rw [if_pos h1, if_pos h2]
    have := Q_diff (a := a) (b := b) (by grind) h (by unfold CC at h1; grind) hd
    grind
  · have h1' : CC < a := Rat.not_le.1 h1
    by_cases h2 : b ≤ CC
    · unfold el; rw [if_neg h1, if_pos h2]
      have q1 := Q_diff (a := CC) (b := b) (by grind) h2 (by unfold CC; grind) (by grind)
      have q2 := Q_diff (a := a / 2) (b := CC / 2) (by unfold CC; grind) (by grind) (by grind) (by grind)
      have := jump
      grind
    · have h2' : CC < b := Rat.not_le.1 h2
      unfold el; rw [if_neg h1, if_neg h2]
      have q2 := Q_diff (a := a / 2) (b := b / 2) (by unfold CC at h2'; grind) (by grind) (by grind) (by grind)
      grind

/-- the digits of a logarithm, by squares: 2^63 is 1 -/
def sqs : Nat → Nat → Nat × Nat
  | 0, x => (0, x)
  | n + 1, x =>
    let r := sqs n x
    if 2 ^ 127 ≤ r.2 * r.2 then (2 * r.1 + 1, r.2 * r.2 / 2 ^ 64) else (2 * r.1, r.2 * r.2 / 2 ^ 63)

theorem sqs_range (n x : Nat) (h1 : 2 ^ 63 ≤ x) (h2 : x < 2 ^ 64) : 2 ^ 63 ≤ (sqs n x).2 ∧ (sqs n x).2 < 2 ^ 64 ∧ (sqs n x).1 < 2 ^ n := by
  induction n with
  | zero => exact ⟨h1, h2, by simp [sqs]⟩
  | succ n ih =>
    obtain ⟨i1, i2, i3⟩ := ih
    simp only [sqs]
    generalize (sqs n x).2 = y at *
    generalize (sqs n x).1 = k at *
    have hlo : 2 ^ 63 * 2 ^ 63 ≤ y * y := Nat.mul_le_mul i1 i1
    have hhi : y * y ≤ (2 ^ 64 - 1) * (2 ^ 64 - 1) := Nat.mul_le_mul (by omega) (by omega)
    generalize y * y = z at *
    have : 2 ^ (n + 1) = 2 * 2 ^ n := by rw [Nat.pow_succ]; omega
    split <;> dsimp only <;> refine ⟨?_, ?_, by omega⟩ <;> omega

def U : Rat := 9223372036854775808

/-- one step -/
theorem step_el (y : Nat) (h1 : 2 ^ 63 ≤ y) (h2 : y < 2 ^ 64) :
    let r : Nat × Nat := if 2 ^ 127 ≤ y * y then (1, y * y / 2 ^ 64) else (0, y * y / 2 ^ 63);
    -10301000000000 ≤ 2 * el ((y : Rat) / U) - ((r.1 : Nat) : Rat) * (LN : Rat) - el ((r.2 : Rat) / U) ∧
      2 * el ((y : Rat) / U) - ((r.1 : Nat) : Rat) * (LN : Rat) - el ((r.2 : Rat) / U) ≤ 10301000000000 := by
  have c1 := Rat.natCast_le_natCast.2 h1
  have c2 := Rat.natCast_lt_natCast.2 h2
  have u1 : 1 ≤ (y : Rat) / U := by
    rw [le_div_iff' (by unfold U; decide)]; unfold U; grind
  have u2 : (y : Rat) / U < 2 := by
    rw [Rat.div_lt_iff (by unfold U; decide)]; unfold U; grind
  have eu : (y : Rat) / U * U = y := by unfold U; grind
  dsimp only
  split
  · rename_i hs
    have c3 := Rat.natCast_le_natCast.2 hs
    rw [Rat.natCast_mul] at c3
    have s1 : 2 ≤ (y : Rat) / U * ((y : Rat) / U) := by
      unfold U at *; grind
    have hh := el_hi _ u1 u2 s1
    -- the truncation
    have q1 : y * y / 2 ^ 64 * 2 ^ 64 ≤ y * y := Nat.div_mul_le_self ..
    have q2 : y * y < (y * y / 2 ^ 64 + 1) * 2 ^ 64 := by omega
    have q3 : 2 ^ 63 ≤ y * y / 2 ^ 64 := by omega
    generalize hz : y * y / 2 ^ 64 = z at *
    have d1 := Rat.natCast_le_natCast.2 q1
    have d2 := Rat.natCast_lt_natCast.2 q2
    have d3 := Rat.natCast_le_natCast.2 q3
    simp only [Rat.natCast_mul, Rat.natCast_add] at d1 d2
    have ez : (z : Rat) / U * U = z := by unfold U; grind
    have m := mul_mono (a := (y : Rat) / U) (b := 2) (c := (y : Rat) / U) (d := 2) (by grind) (by grind) (by grind) (by grind)
    have dd := el_diff (a := (y : Rat) / U * ((y : Rat) / U) / 2) (b := (z : Rat) / U) (by unfold U at *; grind) (by unfold U at *; grind) (by
      have := Rat.mul_pos (a := 2 - (y : Rat) / U) (b := 2 + (y : Rat) / U) (by grind) (by grind)
      grind) (by unfold U at *; grind)
    dsimp only
    have e1 : ((1 : Nat) : Rat) = 1 := rfl
    rw [e1]
    grind
  · rename_i hs
    have hs' : y * y < 2 ^ 127 := by omega
    have c3 := Rat.natCast_lt_natCast.2 hs'
    rw [Rat.natCast_mul] at c3
    have s1 : (y : Rat) / U * ((y : Rat) / U) < 2 := by
      unfold U at *; grind
    have hh := el_lo _ u1 s1
    have q1 : y * y / 2 ^ 63 * 2 ^ 63 ≤ y * y := Nat.div_mul_le_self ..
    have q2 : y * y < (y * y / 2 ^ 63 + 1) * 2 ^ 63 := by omega
    have q4 : 2 ^ 63 * 2 ^ 63 ≤ y * y := Nat.mul_le_mul h1 h1
    have q3 : 2 ^ 63 ≤ y * y / 2 ^ 63 := by omega
    generalize hz : y * y / 2 ^ 63 = z at *
    have d1 := Rat.natCast_le_natCast.2 q1
    have d2 := Rat.natCast_lt_natCast.2 q2
    have d3 := Rat.natCast_le_natCast.2 q3
    simp only [Rat.natCast_mul, Rat.natCast_add] at d1 d2
    have ez : (z : Rat) / U * U = z := by unfold U; grind
    have dd := el_diff (a := (y : Rat) / U * ((y : Rat) / U)) (b := (z : Rat) / U) (by unfold U at *; grind) (by unfold U at *; grind) s1 (by unfold U at *; grind)
    dsimp only
    have e1 : ((0 : Nat) : Rat) = 0 := rfl
    rw [e1]
    grind

theorem chain (n x : Nat) (h1 : 2 ^ 63 ≤ x) (h2 : x < 2 ^ 64) :
    -((2 ^ n - 1) * 10301000000000) ≤ 2 ^ n * el ((x : Rat) / U) - (((sqs n x).1 : Nat) : Rat) * (LN : Rat) - el (((sqs n x).2 : Rat) / U) ∧
      2 ^ n * el ((x : Rat) / U) - (((sqs n x).1 : Nat) : Rat) * (LN : Rat) - el (((sqs n x).2 : Rat) / U) ≤ (2 ^ n - 1) * 10301000000000 := by
  induction n with
  | zero =>
    simp only [sqs, Rat.pow_zero]
    have e1 : ((0 : Nat) : Rat) = 0 := rfl
    rw [e1]
    constructor <;> grind
  | succ n ih =>
    obtain ⟨r1, r2, r3⟩ := sqs_range n x h1 h2
    have st := step_el _ r1 r2
    simp only [sqs, Rat.pow_succ]
    generalize (sqs n x).2 = y at *
    generalize (sqs n x).1 = k at *
    generalize (2 : Rat) ^ n = P at *
    split
    · rename_i hc
      rw [if_pos hc] at st
      dsimp only at *
      rw [Rat.natCast_add, Rat.natCast_mul]
      have e1 : ((1 : Nat) : Rat) = 1 := rfl
      have e2 : ((2 : Nat) : Rat) = 2 := rfl
      rw [e1] at *; rw [e2]
      grind
    · rename_i hc
      rw [if_neg hc] at st
      dsimp only at *
      rw [Rat.natCast_mul]
      have e1 : ((0 : Nat) : Rat) = 0 := rfl
      have e2 : ((2 : Nat) : Rat) = 2 := rfl
      rw [e1] at st; rw [e2]
      grind

theorem Q_ge (s : Rat) (h : 0 ≤ s) : 77371252455336267181195264 * s ≤ pev Q s := by
  have n2 := Rat.mul_nonneg h h
  unfold Q; simp only [pev, Rat.intCast_ofNat]
  have m (c : Rat) (hc : 0 ≤ c) (y : Rat) (hy : 0 ≤ y) : 0 ≤ c + s * (0 + s * y) := by
    have := Rat.mul_nonneg n2 hy
    grind
  have m0 : (0 : Rat) ≤ 5724775800803401859596288 + s * 0 := by grind
  have m1 := m 5924254013427871591170048 (by decide) _ m0
  have m2 := m 7034428761281873779359744 (by decide) _ m1
  have m3 := m 8596796625032193597505536 (by decide) _ m2
  have m4 := m 11053036131677770036019200 (by decide) _ m3
  have m5 := m 15474250490838783509921792 (by decide) _ m4
  have m6 := m 25790417485112353916715008 (by decide) _ m5
  have := Rat.mul_nonneg (Rat.mul_nonneg n2 h) m6
  grind

theorem el_margin (y : Nat) (h1 : 2 ^ 63 + 2 ^ 43 ≤ y) (h2 : y ≤ 2 ^ 64 - 1 - 2 ^ 43) :
    18446744073709551616 ≤ el ((y : Rat) / U) ∧ el ((y : Rat) / U) ≤ (LN : Rat) - 18446744073709551616 := by
  have c1 := Rat.natCast_le_natCast.2 h1
  have c2 := Rat.natCast_le_natCast.2 h2
  have u1 : 1048577/1048576 ≤ (y : Rat) / U := by
    rw [le_div_iff' (by unfold U; decide)]; unfold U; grind
  have u2 : (y : Rat) / U ≤ 2097151/1048576 := by
    rw [div_le_iff' (by unfold U; decide)]; unfold U; grind
  generalize (y : Rat) / U = z at *
  unfold el
  split
  · rename_i hc
    have s1 : 1/2097154 ≤ sv z := le_sv (by grind) (by grind)
    have s2 : sv z ≤ 173/1000 := sv_le (by grind) (by unfold CC at hc; grind)
    have q := Q_ge (sv z) (by grind)
    have l := lip_Q (sv z) 0 (by grind) (by grind) (by grind)
    have q0 : pev Q 0 = 0 := by decide +kernel
    have eL : (LN : Rat) = 26814832747904039722237046 := rfl
    grind
  · rename_i hc
    have hc' : CC < z := Rat.not_le.1 hc
    have s1 : sv (z / 2) ≤ -(1/4194303) := sv_le (by grind) (by grind)
    have s2 : -(173/1000) ≤ sv (z / 2) := le_sv (by grind) (by unfold CC at hc'; grind)
    have q := Q_ge (-sv (z / 2)) (by grind)
    rw [odd_Q] at q
    have l := lip_Q 0 (sv (z / 2)) (by grind) (by grind) (by grind)
    have q0 : pev Q 0 = 0 := by decide +kernel
    have eL : (LN : Rat) = 26814832747904039722237046 := rfl
    grind

theorem pow_le_pow20 (n : Nat) (h : n ≤ 20) : 1 ≤ (2 : Rat) ^ n ∧ (2 : Rat) ^ n ≤ 1048576 := by
  refine ⟨pow_ge_one (by decide) n, ?_⟩
  have : (2 : Rat) ^ n * 2 ^ (20 - n) = 1048576 := by
    have e : ∀ a b : Nat, (2 : Rat) ^ a * 2 ^ b = 2 ^ (a + b) := by
      intro a b
      induction b with
      | zero => simp
      | succ b ih => rw [← Nat.add_assoc, Rat.pow_succ, Rat.pow_succ, ← ih]; grind
    rw [e, show n + (20 - n) = 20 from by omega]; decide +kernel
  have h2 := pow_ge_one (d := (2 : Rat)) (by decide) (20 - n)
  have p : 0 < (2 : Rat) ^ n := Rat.pow_pos (by decide)
  have := Rat.mul_nonneg (a := (2 : Rat) ^ n) (b := 2 ^ (20 - n) - 1) (by grind) (by grind)
  grind

/-- what the digits say of a number near the logarithm -/
theorem digits (n x : Nat) (hn : n ≤ 20) (h1 : 2 ^ 63 ≤ x) (h2 : x < 2 ^ 64) (n1 : 2 ^ 63 + 2 ^ 43 ≤ (sqs n x).2) (n2 : (sqs n x).2 ≤ 2 ^ 64 - 1 - 2 ^ 43)
    (g : Rat) (g1 : el ((x : Rat) / U) - 7000000000000 ≤ g) (g2 : g ≤ el ((x : Rat) / U) + 7000000000000) :
    (((sqs n x).1 : Nat) : Rat) * (LN : Rat) < 2 ^ n * g ∧ 2 ^ n * g < ((((sqs n x).1 : Nat) : Rat) + 1) * (LN : Rat) := by
  have c := chain n x h1 h2
  have m := el_margin _ n1 n2
  have p := pow_le_pow20 n hn
  generalize (2 : Rat) ^ n = P at *
  generalize (((sqs n x).1 : Nat) : Rat) = k at *
  generalize el (((sqs n x).2 : Rat) / U) = t at *
  generalize el ((x : Rat) / U) = v at *
  have b1 := Rat.mul_nonneg (a := P) (b := g - (v - 7000000000000)) (by grind) (by grind)
  have b2 := Rat.mul_nonneg (a := P) (b := (v + 7000000000000) - g) (by grind) (by grind)
  constructor <;> grind
end Go.Proofs.YtlpddogcnpokfaaGreat.Lg
