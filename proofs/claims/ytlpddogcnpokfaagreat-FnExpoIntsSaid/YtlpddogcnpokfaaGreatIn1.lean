/- The int64 instances: the walk of a measurement. -/
import Derived.Test.YtlpddogcnpokfaaGreatEx5
namespace Go.Proofs.YtlpddogcnpokfaaGreat.I
open Go.RowKit
/-- the whole number of a word -/
def sgn (n : Nat) : Int := IntKind.i64.wrap n
theorem sgn_range (n : Nat) : -9223372036854775808 ≤ sgn n ∧ sgn n ≤ 9223372036854775807 := wrap64_range n
theorem sgn_load (n : Nat) : IntKind.i64.wrap (IntKind.u64.wrap (sgn n)) = sgn n := by
  have := sgn_range n
  rw [IntKind.wrap_i64, IntKind.wrap_u64]; omega
/-- the word of a whole number -/
def UW (n : Nat) : Value := .int .u64 (IntKind.u64.wrap (sgn n))
/-- the word of the float of a whole number -/
abbrev fv (n : Nat) : Nat := floatOfInt .f64 (sgn n)

set_option maxRecDepth 100000 in
set_option maxHeartbeats 400000 in
theorem store161 (a : Addr) (n : Nat) (v0 : Value) (w : World) (hc : w.cell? a = some v0) (hf : w.frozen? a = false) :
    Calls Tryz.prog 154 #[.pointer (some a), .int .i64 (sgn n)] w fun e w' => e = .returned (.tuple #[]) ∧ w.setCell a (UW n) = w' := by
  have h1 := mk2
  have h2 := as2i
  have h3 := as2f
  go_enter Tryz.func154, Tryz.ntmps154
  go_wp2_with fail
  refine (store143 _ _ _ _ hc hf).mono ?_
  rintro e w' ⟨rfl, rfl⟩
  go_wp2_with fail
  go_end0
  exact ⟨rfl, rfl⟩

set_option maxRecDepth 100000 in
set_option maxHeartbeats 400000 in
theorem load101 (a : Addr) (n : Nat) (w : World) (hc : w.cell? a = some (UW n)) :
    Calls Tryz.prog 85 #[.pointer (some a)] w fun e w' => e = .returned (.int .i64 (sgn n)) ∧ w = w' := by
  unfold UW at hc
  have hs := sgn_load n
  have h1 := mk2
  have h2 := as2i
  have h3 := as2f
  go_enter Tryz.func85, Tryz.ntmps85
  go_wp2
  go_ret
  exact ⟨rfl, rfl⟩

set_option maxRecDepth 100000 in
set_option maxHeartbeats 400000 in
theorem cas147 (a : Addr) (n m : Nat) (w : World) (hc : w.cell? a = some (UW n)) (hf : w.frozen? a = false) :
    Calls Tryz.prog 137 #[.pointer (some a), .int .i64 (sgn n), .int .i64 (sgn m)] w fun e w' => e = .returned (.bool true) ∧ w.setCell a (UW m) = w' := by
  unfold UW at *
  have h1 := mk2
  have h2 := as2i
  have h3 := as2f
  go_enter Tryz.func137, Tryz.ntmps137
  go_wp2
  go_ret
  exact ⟨rfl, rfl⟩

theorem part209 (w : World) (b : Nat) (cs : Array Value) (fz : Nat × Nat) (h : w.heap[b]? = some (.cells cs 169 fz)) :
    (partAt ⟨b, 2, none⟩ 3 17).run Tryz.prog w = .ok ⟨b, 5, some 49⟩ w := by
  have k1 : Tryz.prog.cellsOf 169 = 17 := by kernel_rfl
  have k2 : byteOfCell Tryz.prog Tryz.prog.depth 169 2 = some 32 := by kernel_rfl
  have k3 : byteOfCell Tryz.prog Tryz.prog.depth 169 5 = some 56 := by kernel_rfl
  have hs : w.shape? b = some (169, cs.size) := by unfold World.shape?; rw [h]
  simp [partAt, byteOf, noView, viewAt, hs, k1, k2, k3]

set_option maxRecDepth 100000 in
set_option maxHeartbeats 400000 in
theorem init146 (b n : Nat) (cs : Array Value) (v0 v1 : Value) (w : World) (hb : w.heap[b]? = some (.cells cs 169 (0, 0))) (h0 : w.cell? ⟨b, 2, none⟩ = some v0) (h1 : w.cell? ⟨b, 3, none⟩ = some v1) (h2 : w.cell? ⟨b, 4, none⟩ = some (.bool false))
    (f0 : w.frozen? ⟨b, 2, none⟩ = false) (f1 : w.frozen? ⟨b, 3, none⟩ = false) (f2 : w.frozen? ⟨b, 4, none⟩ = false) :
    Calls Tryz.prog 136 #[.pointer (some ⟨b, 2, none⟩), .int .i64 (sgn n)] w fun e w' => e = .returned (.bool true) ∧
      ((w.setCell ⟨b, 2, none⟩ (UW n)).setCell ⟨b, 3, none⟩ (UW n)).setCell ⟨b, 4, none⟩ (.bool true) = w' := by
  have hp := part209 w b cs (0, 0) hb
  have q1 : ((w.setCell ⟨b, 2, none⟩ (UW n)).setCell ⟨b, 3, none⟩ (UW n)).cell? ⟨b, 4, none⟩ = some (.bool false) := by go_simp
  have q2 : ((w.setCell ⟨b, 2, none⟩ (UW n)).setCell ⟨b, 3, none⟩ (UW n)).frozen? ⟨b, 4, none⟩ = false := by go_simp
  have q3 : (w.setCell ⟨b, 2, none⟩ (UW n)).cell? ⟨b, 3, none⟩ = some v1 := by go_simp
  have q4 : (w.setCell ⟨b, 2, none⟩ (UW n)).frozen? ⟨b, 3, none⟩ = false := by go_simp
  have Q1 := Lib.hid q1
  have Q2 := Lib.hid q2
  clear hb q1 q2
  go_enter_defers Tryz.func136, Tryz.ntmps136
  go_wp2_with (first | (go_at_call 68; refine (lock68 _ _).mono ?_; rintro e w' ⟨rfl, rfl⟩) | (go_at_call 83; refine (load83 _ _ _ h2).mono ?_; rintro e w' ⟨rfl, rfl⟩))
  refine (store161 _ _ _ _ h0 f0).mono ?_
  rintro e w' ⟨rfl, rfl⟩
  go_wp2_with fail
  refine (store161 _ _ _ _ q3 q4).mono ?_
  rintro e w' ⟨rfl, rfl⟩
  go_wp2_with fail
  refine leaves_cons (f := 153) (args := #[.pointer (some ⟨b, 4, none⟩), .bool true]) (by simp) (by simp [go_sem]) ?_
  refine (store153d _ _ _ .returning _ Q1.out Q2.out).mono ?_
  rintro e u' w'' ⟨rfl, rfl, rfl⟩
  refine leaves_cons (f := 69) (args := #[.pointer (some ⟨b, 5, some 49⟩)]) (by show ¬ (FrameMode.returning = FrameMode.run); intro h; cases h) (by simp [go_sem]) ?_
  refine (unlock69 _ .returning _).mono ?_
  rintro e u' w'' ⟨rfl, rfl, rfl⟩
  exact ⟨_, results_tmp rfl _ _ _, rfl, rfl⟩

/-- less, of whole numbers -/
def ltI (a b : Nat) : Bool := decide (sgn a < sgn b)

/-- the least and the greatest number behind a measurement -/
def mmStep (v mn mx : Nat) : Nat × Nat := if ltI v mn then (v, mx) else if ltI mx v then (mn, v) else (mn, mx)

set_option maxRecDepth 100000 in
set_option maxHeartbeats 400000 in
theorem update127_first (b n : Nat) (cs : Array Value) (v0 v1 : Value) (w : World) (hb : w.heap[b]? = some (.cells cs 169 (0, 0))) (h0 : w.cell? ⟨b, 2, none⟩ = some v0) (h1 : w.cell? ⟨b, 3, none⟩ = some v1) (h2 : w.cell? ⟨b, 4, none⟩ = some (.bool false))
    (f0 : w.frozen? ⟨b, 2, none⟩ = false) (f1 : w.frozen? ⟨b, 3, none⟩ = false) (f2 : w.frozen? ⟨b, 4, none⟩ = false) :
    Calls Tryz.prog 114 #[.pointer (some ⟨b, 2, none⟩), .int .i64 (sgn n)] w fun e w' => e = .returned (.tuple #[]) ∧
      ((w.setCell ⟨b, 2, none⟩ (UW n)).setCell ⟨b, 3, none⟩ (UW n)).setCell ⟨b, 4, none⟩ (.bool true) = w' := by
  have HB := Lib.hid hb
  clear hb
  go_enter Tryz.func114, Tryz.ntmps114
  go_wp2_with fail
  refine (load83 _ _ _ h2).mono ?_; rintro e w' ⟨rfl, rfl⟩
  go_wp2_with fail
  refine (init146 b n cs v0 v1 _ HB.out h0 h1 h2 f0 f1 f2).mono ?_; rintro e w' ⟨rfl, rfl⟩
  go_wp2_with fail
  (try simp only [Exit.inBlock, Exit.then])
  refine bodyPost_ret (results_none rfl _ _ _) rfl ?_
  exact ⟨rfl, rfl⟩

set_option maxRecDepth 100000 in
set_option maxHeartbeats 400000 in
theorem update127_more (b n mn mx : Nat) (w : World) (h0 : w.cell? ⟨b, 2, none⟩ = some (UW mn)) (h1 : w.cell? ⟨b, 3, none⟩ = some (UW mx)) (h2 : w.cell? ⟨b, 4, none⟩ = some (.bool true))
    (f0 : w.frozen? ⟨b, 2, none⟩ = false) (f1 : w.frozen? ⟨b, 3, none⟩ = false) :
    Calls Tryz.prog 114 #[.pointer (some ⟨b, 2, none⟩), .int .i64 (sgn n)] w fun e w' => e = .returned (.tuple #[]) ∧
      (if ltI n mn then w.setCell ⟨b, 2, none⟩ (UW n) else if ltI mx n then w.setCell ⟨b, 3, none⟩ (UW n) else w) = w' := by
  by_cases hl : ltI n mn = true
  · rw [if_pos hl]
    unfold ltI at hl
    go_enter Tryz.func114, Tryz.ntmps114
    go_wp2_with fail
    refine (load83 _ _ _ h2).mono ?_; rintro e w' ⟨rfl, rfl⟩
    go_wp2_with fail
    refine (load101 _ _ _ h0).mono ?_; rintro e w' ⟨rfl, rfl⟩
    go_wp2_with fail
    refine wp_loop_once ?_
    go_wp2_with fail
    refine (cas147 _ _ _ _ h0 f0).mono ?_; rintro e w' ⟨rfl, rfl⟩
    go_wp2_with fail
    (try simp only [Exit.inBlock, Exit.then])
    refine bodyPost_ret (results_none rfl _ _ _) rfl ?_
    exact ⟨rfl, rfl⟩
  · have hl' : ltI n mn = false := by simpa using hl
    rw [if_neg hl]
    unfold ltI at hl'
    clear hl
    by_cases hg : ltI mx n = true
    · rw [if_pos hg]
      unfold ltI at hg
      go_enter Tryz.func114, Tryz.ntmps114
      go_wp2_with fail
      refine (load83 _ _ _ h2).mono ?_; rintro e w' ⟨rfl, rfl⟩
      go_wp2_with fail
      refine (load101 _ _ _ h0).mono ?_; rintro e w' ⟨rfl, rfl⟩
      go_wp2_with fail
      refine wp_loop_once ?_
      go_wp2_with fail
      refine (load101 _ _ _ h1).mono ?_; rintro e w' ⟨rfl, rfl⟩
      go_wp2_with fail
      refine wp_loop_once ?_
      go_wp2_with fail
      refine (cas147 _ _ _ _ h1 f1).mono ?_; rintro e w' ⟨rfl, rfl⟩
      go_wp2_with fail
      (try simp only [Exit.inBlock, Exit.then])
      refine bodyPost_ret (results_none rfl _ _ _) rfl ?_
      exact ⟨rfl, rfl⟩
    · have hg' : ltI mx n = false := by simpa using hg
      rw [if_neg hg]
      unfold ltI at hg'
      clear hg
      go_enter Tryz.func114, Tryz.ntmps114
      go_wp2_with fail
      refine (load83 _ _ _ h2).mono ?_; rintro e w' ⟨rfl, rfl⟩
      go_wp2_with fail
      refine (load101 _ _ _ h0).mono ?_; rintro e w' ⟨rfl, rfl⟩
      go_wp2_with fail
      refine wp_loop_once ?_
      go_wp2_with fail
      refine (load101 _ _ _ h1).mono ?_; rintro e w' ⟨rfl, rfl⟩
      go_wp2_with fail
      refine wp_loop_once ?_
      go_wp2_with fail
      go_end0
      exact ⟨rfl, rfl⟩

end Go.Proofs.YtlpddogcnpokfaaGreat.I
namespace Go.Proofs.YtlpddogcnpokfaaGreat.Lg
open Ieee
theorem nearest_exactI (neg : Bool) (mag T : Nat) (place q : Int) (hT : T < 9007199254740992) (hv0 : (mag : Rat) * p2 place = (T : Rat) * p2 q) (hlo : -1074 ≤ q) (hhi : q ≤ 900) :
    ∃ m i, double.read (double.nearest neg mag place) = .number neg m i ∧ (m : Rat) * p2 i = (mag : Rat) * p2 place := by
  unfold Format.nearest
  by_cases h0 : mag = 0
  · rw [if_pos h0]
    obtain ⟨m, i, hr, hv⟩ := read_rung neg 0 0 (.inl rfl) (by omega) (by omega)
    simp only [Nat.zero_mul, Nat.add_zero] at hr
    refine ⟨m, i, hr, ?_⟩
    have hz : ((0 : Nat) : Rat) = 0 := rfl
    rw [hv, h0, hz]; grind
  · rw [if_neg h0]
    have hb := bit_lo mag h0
    have hb2 : mag < 2 ^ (mag.log2 + 1) := Nat.lt_log2_self
    have hlog : (mag.log2 : Int) + place ≤ q + 52 := by
      refine Int.not_lt.1 fun h' => ?_
      have h1 := Rat.natCast_le_natCast.2 hb
      rw [← p2_nat] at h1
      have h2 := Rat.mul_le_mul_of_nonneg_right (c := p2 place) h1 (Rat.le_of_lt (p2_pos _))
      rw [← p2_add, hv0] at h2
      have h3 : p2 (q + 53) ≤ p2 (mag.log2 + place) := p2_le (by omega)
      have h4 : (T : Rat) < ((9007199254740992 : Nat) : Rat) := Rat.natCast_lt_natCast.2 hT
      have h5 := Rat.mul_lt_mul_of_pos_right h4 (p2_pos q)
      have h6 : ((9007199254740992 : Nat) : Rat) * p2 q = p2 (q + 53) := by
        rw [p2_add]
        have : p2 53 = ((9007199254740992 : Nat) : Rat) := p2_nat 53
        rw [this]; grind
      grind
    have ef : (double.fractionBits : Int) = 52 := rfl
    rw [least_eq, binade_eq, inf_eq, ef]
    dsimp only
    generalize hl : max (place + (mag.log2 : Int) - 52) (-1074) = last
    have hl1 : last ≤ q := by omega
    have hl2 : -1074 ≤ last := by omega
    obtain ⟨L, hL⟩ : ∃ L : Nat, last = (L : Int) - 1074 := ⟨(last + 1074).toNat, by omega⟩
    have hL2 : (last - -1074).toNat = L := by omega
    rw [hL2]
    obtain ⟨kept, hk, k1, k2, k3, k4⟩ := cut_even neg (mag <<< (place - last).toNat) (last - place).toNat
    rw [hk]
    rw [Nat.shiftLeft_eq] at k1 k2 k3 k4
    -- the value
    have hval : -(p2 last) ≤ 2 * ((kept : Rat) * p2 last) - 2 * ((mag : Rat) * p2 place) ∧ 2 * ((kept : Rat) * p2 last) - 2 * ((mag : Rat) * p2 place) ≤ p2 last := by
      have c1 := Rat.natCast_le_natCast.2 k1
      have c2 := Rat.natCast_le_natCast.2 k2
      simp only [Rat.natCast_mul, Rat.natCast_add, ← p2_nat] at c1 c2
      by_cases hc : place ≤ last
      · have e1 : (place - last).toNat = 0 := by omega
        have e2 : ((last - place).toNat : Int) = last - place := by omega
        rw [e1, e2] at c1 c2
        have e3 : p2 last = p2 (last - place) * p2 place := by rw [← p2_add]; congr 1; omega
        have e4 : p2 ((0 : Nat) : Int) = 1 := p2_zero
        rw [e4] at c1 c2
        have e5 : ((2 : Nat) : Rat) = 2 := rfl
        rw [e5] at c1 c2
        have m1 := Rat.mul_le_mul_of_nonneg_right (c := p2 place) c1 (Rat.le_of_lt (p2_pos _))
        have m2 := Rat.mul_le_mul_of_nonneg_right (c := p2 place) c2 (Rat.le_of_lt (p2_pos _))
        rw [e3]
        constructor <;> grind
      · have e1 : (last - place).toNat = 0 := by omega
        have e2 : ((place - last).toNat : Int) = place - last := by omega
        rw [e1, e2] at c1 c2
        have e3 : p2 place = p2 (place - last) * p2 last := by rw [← p2_add]; congr 1; omega
        have e4 : p2 ((0 : Nat) : Int) = 1 := p2_zero
        rw [e4] at c1 c2
        have e5 : ((2 : Nat) : Rat) = 2 := rfl
        rw [e5] at c1 c2
        have m1 := Rat.mul_le_mul_of_nonneg_right (c := p2 last) c1 (Rat.le_of_lt (p2_pos _))
        have m2 := Rat.mul_le_mul_of_nonneg_right (c := p2 last) c2 (Rat.le_of_lt (p2_pos _))
        rw [e3]
        constructor <;> grind
    -- the bounds of what is kept
    have hq : mag * 2 ^ (place - last).toNat / 2 ^ (last - place).toNat < 2 ^ 53 := by
      rw [Nat.div_lt_iff_lt_mul (Nat.two_pow_pos _)]
      have h1 : mag * 2 ^ (place - last).toNat < 2 ^ (mag.log2 + 1) * 2 ^ (place - last).toNat := Nat.mul_lt_mul_of_pos_right hb2 (Nat.two_pow_pos _)
      rw [← Nat.pow_add] at h1
      rw [← Nat.pow_add]
      refine Nat.lt_of_lt_of_le h1 (Nat.pow_le_pow_right (by decide) ?_)
      omega
    have hq2 : L = 0 ∨ 2 ^ 52 ≤ mag * 2 ^ (place - last).toNat / 2 ^ (last - place).toNat := by
      by_cases hz : L = 0
      · exact .inl hz
      · right
        rw [Nat.le_div_iff_mul_le (Nat.two_pow_pos _), ← Nat.pow_add]
        have h1 : 2 ^ mag.log2 * 2 ^ (place - last).toNat ≤ mag * 2 ^ (place - last).toNat := Nat.mul_le_mul_right _ hb
        rw [← Nat.pow_add] at h1
        refine Nat.le_trans (Nat.pow_le_pow_right (by decide) ?_) h1
        omega
    rw [Nat.min_eq_left (by omega)]
    obtain ⟨m, i, hr, hv⟩ := read_rung neg L kept (by omega) (by omega) (by omega)
    refine ⟨m, i, hr, ?_⟩
    rw [hv, ← hL]
    obtain ⟨Z, hZ⟩ : ∃ Z : Nat, (mag : Rat) * p2 place = (Z : Rat) * p2 last := by
      refine ⟨T * 2 ^ (q - last).toNat, ?_⟩
      rw [hv0, Rat.natCast_mul, ← p2_nat, show ((q - last).toNat : Int) = q - last from by omega]
      have e : p2 q = p2 (q - last) * p2 last := by rw [← p2_add]; congr 1; omega
      rw [e]; grind
    rw [hZ] at hval ⊢
    have hpl := p2_pos last
    have u1 : 2 * (kept : Rat) * p2 last ≤ (2 * (Z : Rat) + 1) * p2 last := by grind
    have u2 : 2 * (Z : Rat) * p2 last ≤ (2 * (kept : Rat) + 1) * p2 last := by grind
    have v1 := Rat.le_of_mul_le_mul_right u1 hpl
    have v2 := Rat.le_of_mul_le_mul_right u2 hpl
    have w1 : ((2 * kept : Nat) : Rat) ≤ ((2 * Z + 1 : Nat) : Rat) := by push_cast; grind
    have w2 : ((2 * Z : Nat) : Rat) ≤ ((2 * kept + 1 : Nat) : Rat) := by push_cast; grind
    have w1' := Rat.natCast_le_natCast.1 w1
    have w2' := Rat.natCast_le_natCast.1 w2
    have : kept = Z := by omega
    rw [this]
/-- towards 0 -/
theorem cut_zero2I (s : Bool) (n d : Nat) : Toward.zero.cut s n d = n / 2 ^ d := by
  unfold Toward.cut
  simp only [Nat.one_shiftLeft, Bool.toNat_false, Nat.add_zero]
  by_cases h : d ≤ n.log2 + 2
  · rw [Nat.min_eq_left h]
  · rw [Nat.min_eq_right (by omega)]
    have hn : n < 2 ^ (n.log2 + 1) := Nat.lt_log2_self
    have h1 : 2 ^ (n.log2 + 1) ≤ 2 ^ (n.log2 + 2) := Nat.pow_le_pow_right (by decide) (by omega)
    have h2 : 2 ^ (n.log2 + 1) ≤ 2 ^ d := Nat.pow_le_pow_right (by decide) (by omega)
    rw [Nat.div_eq_of_lt (by omega), Nat.div_eq_of_lt (by omega)]
/-- what is written of a number that the format has -/
theorem write_exactI (s : Bool) (m : Nat) (i : Int) (T : Nat) (q : Int) (hT : T < 9007199254740992) (hv : (m : Rat) * p2 i = (T : Rat) * p2 q) (hlo : -1074 ≤ q) (hhi : q ≤ 900) : Is (double.write (.number s m i)) (sg s * ((m : Rat) * p2 i)) := by
  obtain ⟨m', i', hr, e⟩ := nearest_exactI s m T i q hT hv hlo hhi
  exact ⟨s, m', i', hr, by rw [e]⟩
end Go.Proofs.YtlpddogcnpokfaaGreat.Lg
namespace Go.Proofs.YtlpddogcnpokfaaGreat.I
open Go.RowKit
/-- a whole number that is asked -/
def okI (v : Nat) : Prop := v < 18446744073709551616 ∧ -1099511627776 ≤ sgn v ∧ sgn v ≤ 1099511627776
theorem fv_is {v : Nat} (h : okI v) : Lg.Is (fv v) ((sgn v : Int) : Rat) := by
  have hn : (sgn v).natAbs < 9007199254740992 := by have := h.2; omega
  have e : ((sgn v : Int) : Rat) = Lg.sg (decide (sgn v < 0)) * (((sgn v).natAbs : Rat) * Lg.p2 0) := by
    rw [Lg.p2_zero]
    by_cases hs : sgn v < 0
    · have e2 : (((sgn v).natAbs : Nat) : Rat) = -((sgn v : Int) : Rat) := by rw [← Rat.intCast_neg, ← Rat.intCast_natCast]; congr 1; omega
      rw [e2, decide_eq_true hs]; unfold Lg.sg; simp; grind
    · have e2 : (((sgn v).natAbs : Nat) : Rat) = ((sgn v : Int) : Rat) := by rw [← Rat.intCast_natCast]; congr 1; omega
      rw [e2, decide_eq_false hs]; unfold Lg.sg; simp
  rw [e]
  exact Lg.write_exactI (decide (sgn v < 0)) (sgn v).natAbs 0 (sgn v).natAbs 0 hn rfl (by decide) (by decide)
theorem fv_lt (v : Nat) : fv v < 18446744073709551616 := by
  have := floatOfInt_wf .f64 (sgn v)
  simpa [Lit.wf] using this
theorem fv_fin {v : Nat} (h : okI v) : absW (fv v) < 2047 * 2 ^ 52 := (fv_is h).fin
theorem fv_val {v : Nat} (h : okI v) : Lg.val (fv v) = ((sgn v : Int) : Rat) := (Lg.is_fin (fv_fin h)).det (fv_is h)
theorem fv_self {v : Nat} (h : okI v) : (FloatKind.f64.format.order (fv v) (fv v) == some .eq) = true := by
  rw [show (FloatKind.f64.format.order (fv v) (fv v) == some Ordering.eq) = decide (_ = _) from Lg.order_eq (fv_is h) (fv_is h)]
  simp
theorem fv_neg {v : Nat} (h : okI v) : ltW (fv v) 0 = decide (sgn v < 0) := by
  rw [show ltW (fv v) 0 = decide (_ < _) from Lg.order_lt (fv_is h) Lg.is_zero]
  congr 1
  apply propext
  exact Rat.intCast_lt_intCast (a := sgn v) (b := 0)
/-- what a measurement makes of the two parts of a sum -/
def SumStep (v fb : Nat) (ni : Int) (fb' : Nat) (ni' : Int) : Prop := fb' = fb ∧ ni' = wrap64 (ni + sgn v)
set_option maxRecDepth 100000 in
set_option maxHeartbeats 400000 in
theorem add128 (b o v fb : Nat) (ni : Int) (w : World) (h0 : w.cell? ⟨b, o, none⟩ = some (U fb)) (h1 : w.cell? ⟨b, o + 1, none⟩ = some (.int .i64 ni))
    (_f0 : w.frozen? ⟨b, o, none⟩ = false) (f1 : w.frozen? ⟨b, o + 1, none⟩ = false) (hfb : fb < 18446744073709551616) (hv : okI v) :
    Calls Tryz.prog 115 #[.pointer (some ⟨b, o, none⟩), .int .i64 (sgn v)] w fun e w' => e = .returned (.tuple #[]) ∧
      ∃ fb' ni', fb' < 18446744073709551616 ∧ SumStep v fb ni fb' ni' ∧ Dr ((w.setCell ⟨b, o, none⟩ (U fb')).setCell ⟨b, o + 1, none⟩ (.int .i64 ni')) w' := by
  have he : (FloatKind.f64.format.order (floatOfInt .f64 (sgn v)) (floatOfInt .f64 (sgn v)) == some .eq) = true := fv_self hv
  have H0 := Lib.hid h0
  have HFB := Lib.hid hfb
  clear h0 hfb hv
  go_enter Tryz.func115, Tryz.ntmps115
  go_wp2_with fail
  refine (addI138 _ _ _ _ h1 f1).mono ?_; rintro e w' ⟨rfl, rfl⟩
  go_wp2_with fail
  (try simp only [Exit.inBlock, Exit.then])
  refine bodyPost_ret (results_none rfl _ _ _) rfl ?_
  refine ⟨rfl, fb, wrap64 (ni + sgn v), HFB.out, ⟨rfl, rfl⟩, ?_⟩
  rw [setCell_id w _ _ H0.out]
  exact ⟨0, rfl⟩
set_option maxRecDepth 100000 in
set_option maxHeartbeats 400000 in
/-- the sum -/
theorem sum99 (b o : Nat) (ni : Int) (w : World) (h1 : w.cell? ⟨b, o + 1, none⟩ = some (.int .i64 ni)) :
    Calls Tryz.prog 82 #[.pointer (some ⟨b, o, none⟩)] w fun e w' => e = .returned (.int .i64 ni) ∧ w = w' := by
  have m1 := mk2
  have m2 := as2i
  have m3 := as2f
  go_enter Tryz.func82, Tryz.ntmps82
  go_wp2_with fail
  refine (load123 _ _ _ h1).mono ?_; rintro e w' ⟨rfl, rfl⟩
  go_wp2_with fail
  go_ret
  exact ⟨rfl, rfl⟩

/-- the least and the greatest one, in memory -/
def MmAt (w : World) (b : Nat) (m : Option (Nat × Nat)) : Prop :=
  match m with
  | none => (∃ cs, w.heap[b]? = some (.cells cs 169 (0, 0))) ∧ (∃ v, w.cell? ⟨b, 2, none⟩ = some v) ∧ (∃ v, w.cell? ⟨b, 3, none⟩ = some v) ∧ w.cell? ⟨b, 4, none⟩ = some (.bool false)
  | some (mn, mx) => w.cell? ⟨b, 2, none⟩ = some (UW mn) ∧ w.cell? ⟨b, 3, none⟩ = some (UW mx) ∧ w.cell? ⟨b, 4, none⟩ = some (.bool true)

def mmOpt (v : Nat) : Option (Nat × Nat) → Nat × Nat
  | none => (v, v)
  | some (mn, mx) => mmStep v mn mx

theorem upd127 (b v : Nat) (m : Option (Nat × Nat)) (w : World) (h : MmAt w b m) (f : ∀ i, w.frozen? ⟨b, i, none⟩ = false) :
    Calls Tryz.prog 114 #[.pointer (some ⟨b, 2, none⟩), .int .i64 (sgn v)] w fun e w' => e = .returned (.tuple #[]) ∧ MmAt w' b (some (mmOpt v m)) ∧ PtBut w w' b [2, 3, 4] := by
  cases m with
  | none =>
    obtain ⟨⟨cs, hb⟩, ⟨v0, h0⟩, ⟨v1, h1⟩, h2⟩ := h
    refine (update127_first b v cs v0 v1 w hb h0 h1 h2 (f _) (f _) (f _)).mono ?_
    rintro e w' ⟨he, rfl⟩
    refine ⟨he, ⟨?_, ?_, ?_⟩, (((PtBut.refl _ _ _).set 2 (by simp) _).set 3 (by simp) _).set 4 (by simp) _⟩
    · go_simp
    · go_simp
    · go_simp
  | some p =>
    obtain ⟨mn, mx⟩ := p
    obtain ⟨h0, h1, h2⟩ := h
    refine (update127_more b v mn mx w h0 h1 h2 (f _) (f _)).mono ?_
    rintro e w' ⟨he, rfl⟩
    refine ⟨he, ?_⟩
    simp only [mmOpt, mmStep]
    by_cases c1 : ltI v mn = true
    · rw [if_pos c1, if_pos c1]
      refine ⟨⟨?_, ?_, ?_⟩, (PtBut.refl _ _ _).set 2 (by simp) _⟩
      · go_simp
      · go_simp
      · go_simp
    · rw [if_neg c1, if_neg c1]
      by_cases c2 : ltI mx v = true
      · rw [if_pos c2, if_pos c2]
        refine ⟨⟨?_, ?_, ?_⟩, (PtBut.refl _ _ _).set 3 (by simp) _⟩
        · go_simp
        · go_simp
        · go_simp
      · rw [if_neg c2, if_neg c2]
        exact ⟨⟨h0, h1, h2⟩, PtBut.refl _ _ _⟩

theorem sum128 (b v fb : Nat) (ni : Int) (w : World) (h0 : w.cell? ⟨b, 5, none⟩ = some (U fb)) (h1 : w.cell? ⟨b, 6, none⟩ = some (.int .i64 ni))
    (f : ∀ i, w.frozen? ⟨b, i, none⟩ = false) (hfb : fb < 18446744073709551616) (hv : okI v) :
    Calls Tryz.prog 115 #[.pointer (some ⟨b, 5, none⟩), .int .i64 (sgn v)] w fun e w' => e = .returned (.tuple #[]) ∧
      ∃ fb' ni', fb' < 18446744073709551616 ∧ SumStep v fb ni fb' ni' ∧ w'.cell? ⟨b, 5, none⟩ = some (U fb') ∧ w'.cell? ⟨b, 6, none⟩ = some (.int .i64 ni') ∧ PtBut w w' b [5, 6] := by
  refine (add128 b 5 v fb ni w h0 h1 (f _) (f _) hfb hv).mono ?_
  rintro e w' ⟨he, fb', ni', q1, q2, q3⟩
  refine ⟨he, fb', ni', q1, q2, ?_, ?_, (((PtBut.refl _ _ _).set 5 (by simp) _).set 6 (by simp) _).dr q3⟩
  · obtain ⟨k, rfl⟩ := q3; go_simp
  · obtain ⟨k, rfl⟩ := q3; go_simp

end Go.Proofs.YtlpddogcnpokfaaGreat.I
namespace Go.Proofs.YtlpddogcnpokfaaGreat.I
open Go.RowKit

set_option maxRecDepth 100000 in
set_option maxHeartbeats 400000 in
theorem getBin129lo (b o x : Nat) (S : Int) (top : Nat) (w : World) (h0 : 0 < x) (hx : x < 2047 * 2 ^ 52) (hS : -10 ≤ S) (hS0 : S ≤ 0) (hc : w.cell? ⟨b, o + 10, none⟩ = some (.int .i32 S)) :
    Calls Tryz.prog 117 #[.pointer (some ⟨b, o, none⟩), .float .f64 x] w fun e w' => e = .returned (.int .i32 (binW top S x)) ∧ w = w' := by
  have hr := Lg.ex_range x h0 hx
  obtain ⟨r1, r2⟩ := hr
  have hb := Lib.hid (binW_low top x S h0 hS0)
  have hh := half_eq x h0
  have H0 := Lib.hid h0
  have H := Lib.hid hx
  clear h0 hx
  by_cases hf : Lg.fr x = 0
  · rw [decide_eq_true hf] at hh
    have HF := Lib.hid hf
    clear hf
    go_enter Tryz.func117, Tryz.ntmps117
    go_wp2_with fail
    refine (frexp140 _ _ H0.out H.out).mono ?_; rintro e w' ⟨rfl, rfl⟩
    go_wp2_with go_in
    go_ret
    exact ⟨ret_int (by rw [← hb.out, if_pos HF.out, show Lg.ex x + 1 - 2 = Lg.ex x - 1 from by omega]), rfl⟩
  · rw [decide_eq_false hf] at hh
    have HF := Lib.hid hf
    clear hf
    go_enter Tryz.func117, Tryz.ntmps117
    go_wp2_with fail
    refine (frexp140 _ _ H0.out H.out).mono ?_; rintro e w' ⟨rfl, rfl⟩
    go_wp2_with go_in
    go_ret
    exact ⟨ret_int (by rw [← hb.out, if_neg HF.out]), rfl⟩

set_option maxRecDepth 100000 in
set_option maxHeartbeats 400000 in
theorem getBin129hi (b o x : Nat) (S : Nat) (top : Nat) (w : World) (h0 : 0 < x) (hx : x < 2047 * 2 ^ 52) (hS : S ≤ top) (ht : top ≤ 20) (hS0 : 0 < S) (hn : Lg.near top x = false)
    (hc : w.cell? ⟨b, o + 10, none⟩ = some (.int .i32 (S : Int))) :
    Calls Tryz.prog 117 #[.pointer (some ⟨b, o, none⟩), .float .f64 x] w fun e w' => e = .returned (.int .i32 (binW top S x)) ∧ ∃ n, w' = w.drewN n := by
  obtain ⟨r1, r2⟩ := Lg.ex_range x h0 hx
  obtain ⟨r, P, t, q1, q2, q3, q4, q5, q6⟩ := Lg.bin_high top x S hS ht h0 hn hS0
  have H0 := Lib.hid h0
  have H := Lib.hid hx
  have hm := fun (t : TypeId) (w : World) => run_float_arith (P := Tryz.prog) w .mul t .f64 _ _ _ q2
  have hv := fun (w : World) => run_convert_float_int (P := Tryz.prog) w 32 21 .f64 .i32 P t (by kernel_rfl) Tryz.underlying21 q3
  have Q1 := Lib.hid q1
  have h20 : 2 ^ S ≤ 2 ^ 20 := Nat.pow_le_pow_right (by decide) (by omega)
  have hfin := Lib.hid (wrap_bin (Lg.ex x) t S _ r1 r2 (by omega) q5 q6 q4)
  clear h0 hx q1 q2 q3 q4 q5 q6
  go_enter Tryz.func117, Tryz.ntmps117
  go_wp2_with fail
  refine (frexp140 _ _ H0.out H.out).mono ?_; rintro e w' ⟨rfl, rfl⟩
  go_wp2_with go_in
  go_quiet (first | (go_at_call 141; exact quiet_same (log141 _ _ _ Q1.out)) | (go_at_call 142; exact quiet_same (scaleFactor142 _ _ (by omega) (by omega))))
  all_goals first | (exfalso; omega) | skip
  go_wp2
  go_ret
  exact ⟨ret_int (by rw [hfin.out]; unfold binW; rw [show ((top : Int) - (S : Int)).toNat = top - S from by omega]), nq, rfl⟩

/-- 'getBin' -/
theorem getBin129 (b o x : Nat) (S : Int) (top : Nat) (w : World) (h0 : 0 < x) (hx : x < 2047 * 2 ^ 52) (hS : S ≤ top) (hS1 : -10 ≤ S) (ht : top ≤ 20) (hn : Lg.near top x = false)
    (hc : w.cell? ⟨b, o + 10, none⟩ = some (.int .i32 S)) :
    Calls Tryz.prog 117 #[.pointer (some ⟨b, o, none⟩), .float .f64 x] w fun e w' => e = .returned (.int .i32 (binW top S x)) ∧ ∃ n, w' = w.drewN n := by
  by_cases hS0 : S ≤ 0
  · exact (getBin129lo b o x S top w h0 hx hS1 hS0 hc).mono fun e w' ⟨h, hw⟩ => ⟨h, 0, by rw [← hw]; rfl⟩
  · obtain ⟨s, rfl⟩ : ∃ s : Nat, S = s := ⟨S.toNat, by omega⟩
    exact getBin129hi b o x s top w h0 hx (by omega) ht (by omega) hn hc

/-- a point of an exponential histogram, in memory -/
structure DpAt (w : World) (d : Nat) (mm : Option (Nat × Nat)) (fb : Nat) (ni ms : Int) (s : Bk) (og oh : Option Nat) : Prop where
  lt : d < w.heap.size
  fz : ∀ i, w.frozen? ⟨d, i, none⟩ = false
  mm : MmAt w d mm
  c5 : w.cell? ⟨d, 5, none⟩ = some (U fb)
  c6 : w.cell? ⟨d, 6, none⟩ = some (.int .i64 ni)
  c7 : w.cell? ⟨d, 7, none⟩ = some (.int .i64 ms)
  c8 : w.cell? ⟨d, 8, none⟩ = some (.bool false)
  c9 : w.cell? ⟨d, 9, none⟩ = some (.bool false)
  fbl : fb < 18446744073709551616
  bk : BkAt w d s og oh

/-- a point behind a measurement -/
def DpPost (w w' : World) (d v : Nat) (mm : Option (Nat × Nat)) (fb : Nat) (ni ms : Int) (s : Bk) (og oh : Option Nat) : Prop :=
  ∃ fb' ni' og' oh', SumStep v fb ni fb' ni' ∧ DpAt w' d (some (mmOpt v mm)) fb' ni' ms s og' oh' ∧ Kept (d :: (og.toList ++ oh.toList)) w w' ∧ Newer w og og' ∧ Newer w oh oh' ∧
    ∀ i, i < 2 ∨ 16 ≤ i → w'.cell? ⟨d, i, none⟩ = w.cell? ⟨d, i, none⟩

/-- what the first part of 'record' leaves -/
structure DpMid (w w2 : World) (d v : Nat) (mm : Option (Nat × Nat)) (fb : Nat) (ni ms : Int) (s : Bk) (og oh : Option Nat) : Prop where
  was : DpAt w d mm fb ni ms s og oh
  now : ∃ fb' ni', SumStep v fb ni fb' ni' ∧ DpAt w2 d (some (mmOpt v mm)) fb' ni' ms s og oh
  but : PtBut w w2 d [2, 3, 4, 5, 6]

theorem MmAt.but {w w' : World} {b : Nat} {m : Nat × Nat} {I : List Nat} (h : MmAt w b (some m)) (k : PtBut w w' b I) (hI : ∀ i, i ∈ I → 5 ≤ i) : MmAt w' b (some m) := by
  have n : ∀ i, i < 5 → i ∉ I := fun i hi hm => by have := hI i hm; omega
  obtain ⟨a, b1, c⟩ := h
  exact ⟨(k.cell _ (n _ (by omega))).trans a, (k.cell _ (n _ (by omega))).trans b1, (k.cell _ (n _ (by omega))).trans c⟩

theorem DpMid.make {w w1 w2 : World} {d v : Nat} {mm : Option (Nat × Nat)} {fb : Nat} {ni ms : Int} {s : Bk} {og oh : Option Nat} (h : DpAt w d mm fb ni ms s og oh)
    (m1 : MmAt w1 d (some (mmOpt v mm))) (b1 : PtBut w w1 d [2, 3, 4]) {fb' : Nat} {ni' : Int} (q1 : fb' < 18446744073709551616) (q2 : SumStep v fb ni fb' ni')
    (q5 : w2.cell? ⟨d, 5, none⟩ = some (U fb')) (q6 : w2.cell? ⟨d, 6, none⟩ = some (.int .i64 ni')) (b2 : PtBut w1 w2 d [5, 6]) : DpMid w w2 d v mm fb ni ms s og oh := by
  have hb : PtBut w w2 d [2, 3, 4, 5, 6] := (b1.mono (by simp)).trans (b2.mono (by simp))
  refine ⟨h, ⟨fb', ni', q2, ?_⟩, hb⟩
  refine ⟨Nat.lt_of_lt_of_le h.lt hb.kept.size, fun i => (hb.fz i).trans (h.fz i), m1.but b2 (by simp), q5, q6, (hb.cell _ (by decide)).trans h.c7, (hb.cell _ (by decide)).trans h.c8, (hb.cell _ (by decide)).trans h.c9, q1, h.bk.but hb (by simp)⟩

/-- the end of 'record': the buckets alone have changed -/
theorem DpMid.fin {w w2 w3 : World} {d v : Nat} {mm : Option (Nat × Nat)} {fb : Nat} {ni ms : Int} {s s' : Bk} {og oh og' oh' : Option Nat} (h : DpMid w w2 d v mm fb ni ms s og oh)
    (hb : BkAt w3 d s' og' oh') (hk : Kept (d :: (og.toList ++ oh.toList)) w2 w3) (hc : ∀ i, i < 10 ∨ 16 ≤ i → w3.cell? ⟨d, i, none⟩ = w2.cell? ⟨d, i, none⟩) (hf : ∀ i, w3.frozen? ⟨d, i, none⟩ = w2.frozen? ⟨d, i, none⟩)
    (n1 : Newer w2 og og') (n2 : Newer w2 oh oh') : DpPost w w3 d v mm fb ni ms s' og oh := by
  obtain ⟨wa, ⟨fb', ni', q2, n⟩, bt⟩ := h
  have hs := bt.kept.size
  refine ⟨fb', ni', og', oh', q2, ?_, ?_, ?_, ?_, ?_⟩
  · refine ⟨Nat.lt_of_lt_of_le n.lt hk.size, fun i => (hf i).trans (n.fz i), ?_, (hc _ (by omega)).trans n.c5, (hc _ (by omega)).trans n.c6, (hc _ (by omega)).trans n.c7, (hc _ (by omega)).trans n.c8, (hc _ (by omega)).trans n.c9, n.fbl, hb⟩
    obtain ⟨a, b1, c⟩ := n.mm
    exact ⟨(hc _ (by omega)).trans a, (hc _ (by omega)).trans b1, (hc _ (by omega)).trans c⟩
  · exact (bt.kept.mono (by simp)).trans hk
  · rcases n1 with h | ⟨g, h1, h2⟩
    · exact .inl h
    · exact .inr ⟨g, h1, by omega⟩
  · rcases n2 with h | ⟨g, h1, h2⟩
    · exact .inl h
    · exact .inr ⟨g, h1, by omega⟩
  · intro i hi
    rw [hc i (by omega)]
    exact bt.cell i (by simp; omega)

set_option maxRecDepth 100000 in
set_option maxHeartbeats 400000 in
theorem rec96_zero (d v : Nat) (mm : Option (Nat × Nat)) (fb : Nat) (ni ms : Int) (s : Bk) (og oh : Option Nat) (w : World) (h : DpAt w d mm fb ni ms s og oh)
    (hv : okI v) (hz : absW (fv v) = 0) (hzc : s.zc < 4611686018427387904) :
    Calls Tryz.prog 76 #[.pointer (some ⟨d, 0, none⟩), .int .i64 (sgn v)] w fun e w' => e = .returned (.tuple #[]) ∧ DpPost w w' d v mm fb ni ms { s with zc := s.zc + 1 } og oh := by
  have hze := zero_word (fv v) hz
  have c8 := h.c8
  have HV := Lib.hid hv
  clear hv
  have HZ := Lib.hid hz
  clear hz
  have H := Lib.hid h
  clear h
  go_enter Tryz.func76, Tryz.ntmps76
  go_wp2_with fail
  refine (upd127 _ _ _ _ H.out.mm H.out.fz).mono ?_; rintro e w1 ⟨rfl, hm1, hb1⟩
  have c9 : w1.cell? ⟨d, 9, none⟩ = some (.bool false) := (hb1.cell _ (by decide)).trans H.out.c9
  have M1 := Lib.hid (And.intro hm1 hb1)
  clear hm1 hb1
  go_wp2_with fail
  refine (sum128 d v fb ni _ ((M1.out.2.cell _ (by decide)).trans H.out.c5) ((M1.out.2.cell _ (by decide)).trans H.out.c6) (fun i => (M1.out.2.fz i).trans (H.out.fz i)) H.out.fbl HV.out).mono ?_
  rintro e w2 ⟨rfl, fb', ni', q1, q2, q5, q6, hb2⟩
  have M := Lib.hid (DpMid.make H.out M1.out.1 M1.out.2 q1 q2 q5 q6 hb2)
  clear q1 q2 q5 q6 hb2
  go_wp2_with fail
  refine (abs12 (fv v) _ (fv_lt v)).mono ?_; rintro e w' ⟨rfl, rfl⟩
  go_wp2_with fail
  obtain ⟨fb2, ni2, -, N⟩ := M.out.now
  refine (add116 _ (s.zc : Int) 1 _ N.bk.z (N.fz _)).mono ?_; rintro e w3 ⟨rfl, rfl⟩
  go_wp2_with fail
  (try simp only [Exit.inBlock, Exit.then])
  refine bodyPost_ret (results_none rfl _ _ _) rfl ?_
  refine ⟨rfl, ?_⟩
  have he : IntKind.u64.wrap ((s.zc : Int) + 1) = ((s.zc + 1 : Nat) : Int) := by rw [IntKind.wrap_u64]; omega
  rw [he]
  have K : PtBut w2 (w2.setCell ⟨d, 15, none⟩ (U (s.zc + 1))) d [15] := (PtBut.refl _ _ _).set 15 (by simp) _
  refine M.out.fin (og' := og) (oh' := oh) ?_ (K.kept.mono (by simp)) (fun i hi => K.cell i (by simp; omega)) K.fz (.inl rfl) (.inl rfl)
  refine ⟨(K.cell _ (by decide)).trans N.bk.sc, N.bk.P.but K (by decide) (by decide), N.bk.N.but K (by decide) (by decide), ?_, N.bk.ap⟩
  have z := N.bk.z
  show (w2.setCell ⟨d, 15, none⟩ (U (s.zc + 1))).cell? ⟨d, 15, none⟩ = some (U (s.zc + 1))
  generalize U (s.zc + 1) = x
  go_simp

theorem DpMid.dr {w w2 w3 : World} {d v : Nat} {mm : Option (Nat × Nat)} {fb : Nat} {ni ms : Int} {s : Bk} {og oh : Option Nat} (h : DpMid w w2 d v mm fb ni ms s og oh) (hd : Dr w2 w3) :
    DpMid w w3 d v mm fb ni ms s og oh := by
  obtain ⟨wa, ⟨fb', ni', q2, n⟩, bt⟩ := h
  have k : PtBut w2 w3 d [] := PtBut.ofDr hd
  have c : ∀ i, i ∉ ([] : List Nat) := by simp
  exact ⟨wa, ⟨fb', ni', q2, Nat.lt_of_lt_of_le n.lt k.kept.size, fun i => (k.fz i).trans (n.fz i), n.mm.but k (by simp), (k.cell _ (c _)).trans n.c5, (k.cell _ (c _)).trans n.c6, (k.cell _ (c _)).trans n.c7,
    (k.cell _ (c _)).trans n.c8, (k.cell _ (c _)).trans n.c9, n.fbl, n.bk.but k (by simp)⟩, bt.trans (k.mono (by simp))⟩

theorem DpMid.step {w w2 w3 : World} {d v : Nat} {mm : Option (Nat × Nat)} {fb : Nat} {ni ms : Int} {s s' : Bk} {og oh og' oh' : Option Nat} (h : DpMid w w2 d v mm fb ni ms s og oh)
    (k : BkStep w2 w3 d og oh s' og' oh') : DpPost w w3 d v mm fb ni ms s' og oh := h.fin k.now k.kept k.cells k.fz k.n1 k.n2

theorem _root_.Go.Proofs.YtlpddogcnpokfaaGreat.RecPre.binI {top v : Nat} {ms : Int} {s : Bk} (h : RecPre top v ms s) (w : World) (d : Nat) (S : Int) (hS : S ≤ top) (hS1 : -10 ≤ S) (hc : w.cell? ⟨d, 10, none⟩ = some (.int .i32 S)) :
    Calls Tryz.prog 117 #[.pointer (some ⟨d, 0, none⟩), .float .f64 (absW v)] w fun e w' => e = .returned (.int .i32 (binW top S (absW v))) ∧ Dr w w' :=
  (I.getBin129 d 0 (absW v) S top w (Nat.pos_of_ne_zero h.hx) h.hx2 hS hS1 h.ht h.hn hc).mono fun _ _ ⟨a, k, b⟩ => ⟨a, k, b.symm⟩

set_option maxRecDepth 100000 in
set_option maxHeartbeats 1000000 in
theorem rec96_putP (d v top : Nat) (mm : Option (Nat × Nat)) (fb : Nat) (ni ms : Int) (s : Bk) (og oh : Option Nat) (w : World) (h : DpAt w d mm fb ni ms s og oh)
    (hv : okI v) (R : RecPre top (fv v) ms s) (hneg : ltW (fv v) 0 = false) (hsc : scOf ms (binW top s.sc (absW (fv v))) s.ps s.pl.length = 0) (hlen : (recL s.ps s.pl (binW top s.sc (absW (fv v)))).length ≤ 1000) :
    Calls Tryz.prog 76 #[.pointer (some ⟨d, 0, none⟩), .int .i64 (sgn v)] w fun e w' => e = .returned (.tuple #[]) ∧ DpPost w w' d v mm fb ni ms (s.put false (binW top s.sc (absW (fv v)))) og oh := by
  have hze := order_pos_ne_zero (Nat.pos_of_ne_zero R.hx) R.hx2
  have hng : ¬ sgn v < 0 := by have := hneg; rw [fv_neg hv] at this; simpa using this
  have HV := Lib.hid hv
  clear hv
  have c8 := h.c8
  have HSC := Lib.hid hsc
  have HLEN := Lib.hid hlen
  clear hsc hneg hlen
  have R := Lib.hid R
  have H := Lib.hid h
  clear h
  go_enter Tryz.func76, Tryz.ntmps76
  go_wp2_with fail
  refine (upd127 _ _ _ _ H.out.mm H.out.fz).mono ?_; rintro e w1 ⟨rfl, hm1, hb1⟩
  have c9 : w1.cell? ⟨d, 9, none⟩ = some (.bool false) := (hb1.cell _ (by decide)).trans H.out.c9
  have M1 := Lib.hid (And.intro hm1 hb1)
  clear hm1 hb1
  go_wp2_with fail
  refine (sum128 d v fb ni _ ((M1.out.2.cell _ (by decide)).trans H.out.c5) ((M1.out.2.cell _ (by decide)).trans H.out.c6) (fun i => (M1.out.2.fz i).trans (H.out.fz i)) H.out.fbl HV.out).mono ?_
  rintro e w2 ⟨rfl, fb', ni', q1, q2, q5, q6, hb2⟩
  have M := Lib.hid (DpMid.make H.out M1.out.1 M1.out.2 q1 q2 q5 q6 hb2)
  clear q1 q2 q5 q6 hb2
  go_wp2_with fail
  refine (abs12 (fv v) _ R.out.hv).mono ?_; rintro e w' ⟨rfl, rfl⟩
  go_wp2_with fail
  obtain ⟨fb2, ni2, q2, N⟩ := M.out.now
  have N := Lib.hid N
  clear q2
  refine (R.out.binI _ d s.sc R.out.hS R.out.hS1 N.out.bk.sc).mono ?_; rintro e w3 ⟨rfl, hd3⟩
  have M3 := Lib.hid (M.out.dr hd3)
  clear hd3 N
  obtain ⟨fb3, ni3, q2, N⟩ := M3.out.now
  clear q2
  obtain ⟨e0, e1, hsl⟩ := N.bk.P.slice
  have hst := N.bk.P.1
  have N := Lib.hid N
  obtain ⟨r1, r2⟩ := Lib.hid (binW_range top (absW (fv v)) s.sc R.out.ht (Nat.pos_of_ne_zero R.out.hx) R.out.hx2) |>.out
  have RB := Lib.hid (And.intro r1 r2)
  clear r1 r2
  generalize hB : binW top s.sc (absW (fv v)) = B at *
  have HB := Lib.hid hB
  clear hB
  go_wp2_with fail
  go_quiet (first | (go_at_call 118; exact quiet_same (scaleChange118 d 0 ms B s.ps s.pl.length _ N.out.c7 R.out.m1 R.out.m2 (by have := RB.out; omega) (by have := RB.out; omega) (by have := R.out.p1; omega) (by have := R.out.p2; omega) (by omega) (by have := R.out.pl; omega))))
  have hsc := HSC.out
  (try rw [hsc])
  generalize hW : w3.drewN _ = w4
  have hd4 : Dr w3 w4 := ⟨_, hW⟩
  have M4 := Lib.hid (M3.out.dr hd4)
  clear hW hd4 M3 N c9 hst hsl
  go_wp2_with fail
  clear hsc
  obtain ⟨fb4, ni4, q2, N⟩ := M4.out.now
  clear q2
  refine (record121 d 11 B s.ps s.pl og w4 N.bk.P N.lt (N.fz _) (N.fz _) R.out.p1 R.out.p2 RB.out.1 RB.out.2 HLEN.out (fun x hx => Nat.lt_of_le_of_lt (mem_le_sum _ _ hx) R.out.pm)).mono ?_
  rintro e w5 ⟨rfl, hp⟩
  obtain ⟨og', hs⟩ := BkStep.recP N.bk N.lt hp
  have FIN := Lib.hid (M4.out.step hs)
  clear hs hp N
  go_wp2_with fail
  go_end0
  rw [HB.out]
  exact ⟨rfl, FIN.out⟩

set_option maxRecDepth 100000 in
set_option maxHeartbeats 1000000 in
theorem rec96_putN (d v top : Nat) (mm : Option (Nat × Nat)) (fb : Nat) (ni ms : Int) (s : Bk) (og oh : Option Nat) (w : World) (h : DpAt w d mm fb ni ms s og oh)
    (hv : okI v) (R : RecPre top (fv v) ms s) (hneg : ltW (fv v) 0 = true) (hsc : scOf ms (binW top s.sc (absW (fv v))) s.ns s.nl.length = 0) (hlen : (recL s.ns s.nl (binW top s.sc (absW (fv v)))).length ≤ 1000) :
    Calls Tryz.prog 76 #[.pointer (some ⟨d, 0, none⟩), .int .i64 (sgn v)] w fun e w' => e = .returned (.tuple #[]) ∧ DpPost w w' d v mm fb ni ms (s.put true (binW top s.sc (absW (fv v)))) og oh := by
  have hze := order_pos_ne_zero (Nat.pos_of_ne_zero R.hx) R.hx2
  have hng : sgn v < 0 := by have := hneg; rw [fv_neg hv] at this; simpa using this
  have HV := Lib.hid hv
  clear hv
  have c8 := h.c8
  have HSC := Lib.hid hsc
  have HLEN := Lib.hid hlen
  clear hsc hneg hlen
  have R := Lib.hid R
  have H := Lib.hid h
  clear h
  go_enter Tryz.func76, Tryz.ntmps76
  go_wp2_with fail
  refine (upd127 _ _ _ _ H.out.mm H.out.fz).mono ?_; rintro e w1 ⟨rfl, hm1, hb1⟩
  have c9 : w1.cell? ⟨d, 9, none⟩ = some (.bool false) := (hb1.cell _ (by decide)).trans H.out.c9
  have M1 := Lib.hid (And.intro hm1 hb1)
  clear hm1 hb1
  go_wp2_with fail
  refine (sum128 d v fb ni _ ((M1.out.2.cell _ (by decide)).trans H.out.c5) ((M1.out.2.cell _ (by decide)).trans H.out.c6) (fun i => (M1.out.2.fz i).trans (H.out.fz i)) H.out.fbl HV.out).mono ?_
  rintro e w2 ⟨rfl, fb', ni', q1, q2, q5, q6, hb2⟩
  have M := Lib.hid (DpMid.make H.out M1.out.1 M1.out.2 q1 q2 q5 q6 hb2)
  clear q1 q2 q5 q6 hb2
  go_wp2_with fail
  refine (abs12 (fv v) _ R.out.hv).mono ?_; rintro e w' ⟨rfl, rfl⟩
  go_wp2_with fail
  obtain ⟨fb2, ni2, q2, N⟩ := M.out.now
  have N := Lib.hid N
  clear q2
  refine (R.out.binI _ d s.sc R.out.hS R.out.hS1 N.out.bk.sc).mono ?_; rintro e w3 ⟨rfl, hd3⟩
  have M3 := Lib.hid (M.out.dr hd3)
  clear hd3 N
  obtain ⟨fb3, ni3, q2, N⟩ := M3.out.now
  clear q2
  obtain ⟨e0, e1, hsl⟩ := N.bk.N.slice
  have hst := N.bk.N.1
  have N := Lib.hid N
  obtain ⟨r1, r2⟩ := Lib.hid (binW_range top (absW (fv v)) s.sc R.out.ht (Nat.pos_of_ne_zero R.out.hx) R.out.hx2) |>.out
  have RB := Lib.hid (And.intro r1 r2)
  clear r1 r2
  generalize hB : binW top s.sc (absW (fv v)) = B at *
  have HB := Lib.hid hB
  clear hB
  go_wp2_with fail
  go_quiet (first | (go_at_call 118; exact quiet_same (scaleChange118 d 0 ms B s.ns s.nl.length _ N.out.c7 R.out.m1 R.out.m2 (by have := RB.out; omega) (by have := RB.out; omega) (by have := R.out.n1; omega) (by have := R.out.n2; omega) (by omega) (by have := R.out.nl; omega))))
  have hsc := HSC.out
  (try rw [hsc])
  generalize hW : w3.drewN _ = w4
  have hd4 : Dr w3 w4 := ⟨_, hW⟩
  have M4 := Lib.hid (M3.out.dr hd4)
  clear hW hd4 M3 N c9 hst hsl
  go_wp2_with fail
  clear hsc
  obtain ⟨fb4, ni4, q2, N⟩ := M4.out.now
  clear q2
  refine (record121 d 13 B s.ns s.nl oh w4 N.bk.N N.lt (N.fz _) (N.fz _) R.out.n1 R.out.n2 RB.out.1 RB.out.2 HLEN.out (fun x hx => Nat.lt_of_le_of_lt (mem_le_sum _ _ hx) R.out.nm)).mono ?_
  rintro e w5 ⟨rfl, hp⟩
  obtain ⟨oh', hs⟩ := BkStep.recN N.bk N.lt hp
  have FIN := Lib.hid (M4.out.step hs)
  clear hs hp N
  go_wp2_with fail
  go_end0
  rw [HB.out]
  exact ⟨rfl, FIN.out⟩

set_option maxRecDepth 100000 in
set_option maxHeartbeats 1000000 in
theorem rec96_tooP (d v top k : Nat) (mm : Option (Nat × Nat)) (fb : Nat) (ni ms : Int) (s : Bk) (og oh : Option Nat) (w : World) (h : DpAt w d mm fb ni ms s og oh)
    (hv : okI v) (R : RecPre top (fv v) ms s) (hneg : ltW (fv v) 0 = false) (hsc : scOf ms (binW top s.sc (absW (fv v))) s.ps s.pl.length = (k : Int)) (hk : 0 < k) (hlo : s.sc - k < -10) :
    Calls Tryz.prog 76 #[.pointer (some ⟨d, 0, none⟩), .int .i64 (sgn v)] w fun e w' => e = .returned (.tuple #[]) ∧ DpPost w w' d v mm fb ni ms s og oh := by
  have hze := order_pos_ne_zero (Nat.pos_of_ne_zero R.hx) R.hx2
  have hng : ¬ sgn v < 0 := by have := hneg; rw [fv_neg hv] at this; simpa using this
  have HV := Lib.hid hv
  clear hv
  have c8 := h.c8
  have HSC := Lib.hid hsc
  have hk31 : k ≤ 31 := by have := (scOf_le ms (binW top s.sc (absW (fv v))) s.ps s.pl.length).2; omega
  clear hsc hneg
  have R := Lib.hid R
  have H := Lib.hid h
  clear h
  go_enter Tryz.func76, Tryz.ntmps76
  go_wp2_with fail
  refine (upd127 _ _ _ _ H.out.mm H.out.fz).mono ?_; rintro e w1 ⟨rfl, hm1, hb1⟩
  have c9 : w1.cell? ⟨d, 9, none⟩ = some (.bool false) := (hb1.cell _ (by decide)).trans H.out.c9
  have M1 := Lib.hid (And.intro hm1 hb1)
  clear hm1 hb1
  go_wp2_with fail
  refine (sum128 d v fb ni _ ((M1.out.2.cell _ (by decide)).trans H.out.c5) ((M1.out.2.cell _ (by decide)).trans H.out.c6) (fun i => (M1.out.2.fz i).trans (H.out.fz i)) H.out.fbl HV.out).mono ?_
  rintro e w2 ⟨rfl, fb', ni', q1, q2, q5, q6, hb2⟩
  have M := Lib.hid (DpMid.make H.out M1.out.1 M1.out.2 q1 q2 q5 q6 hb2)
  clear q1 q2 q5 q6 hb2
  go_wp2_with fail
  refine (abs12 (fv v) _ R.out.hv).mono ?_; rintro e w' ⟨rfl, rfl⟩
  go_wp2_with fail
  obtain ⟨fb2, ni2, q2, N⟩ := M.out.now
  have N := Lib.hid N
  clear q2
  refine (R.out.binI _ d s.sc R.out.hS R.out.hS1 N.out.bk.sc).mono ?_; rintro e w3 ⟨rfl, hd3⟩
  have M3 := Lib.hid (M.out.dr hd3)
  clear hd3 N
  obtain ⟨fb3, ni3, q2, N⟩ := M3.out.now
  clear q2
  obtain ⟨e0, e1, hsl⟩ := N.bk.P.slice
  have hst := N.bk.P.1
  have N := Lib.hid N
  obtain ⟨r1, r2⟩ := Lib.hid (binW_range top (absW (fv v)) s.sc R.out.ht (Nat.pos_of_ne_zero R.out.hx) R.out.hx2) |>.out
  have RB := Lib.hid (And.intro r1 r2)
  clear r1 r2
  generalize hB : binW top s.sc (absW (fv v)) = B at *
  have HB := Lib.hid hB
  clear hB
  go_wp2_with fail
  go_quiet (first | (go_at_call 118; exact quiet_same (scaleChange118 d 0 ms B s.ps s.pl.length _ N.out.c7 R.out.m1 R.out.m2 (by have := RB.out; omega) (by have := RB.out; omega) (by have := R.out.p1; omega) (by have := R.out.p2; omega) (by omega) (by have := R.out.pl; omega))))
  have hsc := HSC.out
  (try rw [hsc])
  generalize hW : w3.drewN _ = w4
  have hd4 : Dr w3 w4 := ⟨_, hW⟩
  have M4 := Lib.hid (M3.out.dr hd4)
  clear hW hd4 M3 N c9 hst hsl hsc
  have hk0 : decide ((k : Int) > 0) = true := by simpa using hk
  have s1 : s.sc ≤ 20 := by have := R.out.hS; have := R.out.ht; omega
  have s2 := R.out.hS1
  have hw1 : IntKind.i32.wrap (s.sc - (k : Int)) = s.sc - (k : Int) := IntWalk.i32_in _ (by omega)
  have hlo' : decide (s.sc - (k : Int) < -10) = true := by simpa using hlo
  go_wp2_with fail
  obtain ⟨fb4, ni4, q2, N⟩ := M4.out.now
  clear q2
  refine (load79 _ _ w4 N.bk.sc).mono ?_; rintro e w5 ⟨rfl, rfl⟩
  have FIN := Lib.hid (M4.out.fin N.bk ((Kept.refl _ _)) (fun _ _ => rfl) (fun _ => rfl) (.inl rfl) (.inl rfl))
  clear N
  go_wp2_with fail
  (try simp only [Exit.inBlock, Exit.then])
  refine bodyPost_ret (results_none rfl _ _ _) rfl ?_
  exact ⟨rfl, FIN.out⟩

set_option maxRecDepth 100000 in
set_option maxHeartbeats 1000000 in
theorem rec96_tooN (d v top k : Nat) (mm : Option (Nat × Nat)) (fb : Nat) (ni ms : Int) (s : Bk) (og oh : Option Nat) (w : World) (h : DpAt w d mm fb ni ms s og oh)
    (hv : okI v) (R : RecPre top (fv v) ms s) (hneg : ltW (fv v) 0 = true) (hsc : scOf ms (binW top s.sc (absW (fv v))) s.ns s.nl.length = (k : Int)) (hk : 0 < k) (hlo : s.sc - k < -10) :
    Calls Tryz.prog 76 #[.pointer (some ⟨d, 0, none⟩), .int .i64 (sgn v)] w fun e w' => e = .returned (.tuple #[]) ∧ DpPost w w' d v mm fb ni ms s og oh := by
  have hze := order_pos_ne_zero (Nat.pos_of_ne_zero R.hx) R.hx2
  have hng : sgn v < 0 := by have := hneg; rw [fv_neg hv] at this; simpa using this
  have HV := Lib.hid hv
  clear hv
  have c8 := h.c8
  have HSC := Lib.hid hsc
  have hk31 : k ≤ 31 := by have := (scOf_le ms (binW top s.sc (absW (fv v))) s.ns s.nl.length).2; omega
  clear hsc hneg
  have R := Lib.hid R
  have H := Lib.hid h
  clear h
  go_enter Tryz.func76, Tryz.ntmps76
  go_wp2_with fail
  refine (upd127 _ _ _ _ H.out.mm H.out.fz).mono ?_; rintro e w1 ⟨rfl, hm1, hb1⟩
  have c9 : w1.cell? ⟨d, 9, none⟩ = some (.bool false) := (hb1.cell _ (by decide)).trans H.out.c9
  have M1 := Lib.hid (And.intro hm1 hb1)
  clear hm1 hb1
  go_wp2_with fail
  refine (sum128 d v fb ni _ ((M1.out.2.cell _ (by decide)).trans H.out.c5) ((M1.out.2.cell _ (by decide)).trans H.out.c6) (fun i => (M1.out.2.fz i).trans (H.out.fz i)) H.out.fbl HV.out).mono ?_
  rintro e w2 ⟨rfl, fb', ni', q1, q2, q5, q6, hb2⟩
  have M := Lib.hid (DpMid.make H.out M1.out.1 M1.out.2 q1 q2 q5 q6 hb2)
  clear q1 q2 q5 q6 hb2
  go_wp2_with fail
  refine (abs12 (fv v) _ R.out.hv).mono ?_; rintro e w' ⟨rfl, rfl⟩
  go_wp2_with fail
  obtain ⟨fb2, ni2, q2, N⟩ := M.out.now
  have N := Lib.hid N
  clear q2
  refine (R.out.binI _ d s.sc R.out.hS R.out.hS1 N.out.bk.sc).mono ?_; rintro e w3 ⟨rfl, hd3⟩
  have M3 := Lib.hid (M.out.dr hd3)
  clear hd3 N
  obtain ⟨fb3, ni3, q2, N⟩ := M3.out.now
  clear q2
  obtain ⟨e0, e1, hsl⟩ := N.bk.N.slice
  have hst := N.bk.N.1
  have N := Lib.hid N
  obtain ⟨r1, r2⟩ := Lib.hid (binW_range top (absW (fv v)) s.sc R.out.ht (Nat.pos_of_ne_zero R.out.hx) R.out.hx2) |>.out
  have RB := Lib.hid (And.intro r1 r2)
  clear r1 r2
  generalize hB : binW top s.sc (absW (fv v)) = B at *
  have HB := Lib.hid hB
  clear hB
  go_wp2_with fail
  go_quiet (first | (go_at_call 118; exact quiet_same (scaleChange118 d 0 ms B s.ns s.nl.length _ N.out.c7 R.out.m1 R.out.m2 (by have := RB.out; omega) (by have := RB.out; omega) (by have := R.out.n1; omega) (by have := R.out.n2; omega) (by omega) (by have := R.out.nl; omega))))
  have hsc := HSC.out
  (try rw [hsc])
  generalize hW : w3.drewN _ = w4
  have hd4 : Dr w3 w4 := ⟨_, hW⟩
  have M4 := Lib.hid (M3.out.dr hd4)
  clear hW hd4 M3 N c9 hst hsl hsc
  have hk0 : decide ((k : Int) > 0) = true := by simpa using hk
  have s1 : s.sc ≤ 20 := by have := R.out.hS; have := R.out.ht; omega
  have s2 := R.out.hS1
  have hw1 : IntKind.i32.wrap (s.sc - (k : Int)) = s.sc - (k : Int) := IntWalk.i32_in _ (by omega)
  have hlo' : decide (s.sc - (k : Int) < -10) = true := by simpa using hlo
  go_wp2_with fail
  obtain ⟨fb4, ni4, q2, N⟩ := M4.out.now
  clear q2
  refine (load79 _ _ w4 N.bk.sc).mono ?_; rintro e w5 ⟨rfl, rfl⟩
  have FIN := Lib.hid (M4.out.fin N.bk ((Kept.refl _ _)) (fun _ _ => rfl) (fun _ => rfl) (.inl rfl) (.inl rfl))
  clear N
  go_wp2_with fail
  (try simp only [Exit.inBlock, Exit.then])
  refine bodyPost_ret (results_none rfl _ _ _) rfl ?_
  exact ⟨rfl, FIN.out⟩

set_option maxRecDepth 100000 in
set_option maxHeartbeats 1000000 in
theorem rec96_dnP (d v top k : Nat) (mm : Option (Nat × Nat)) (fb : Nat) (ni ms : Int) (s : Bk) (og oh : Option Nat) (w : World) (h : DpAt w d mm fb ni ms s og oh)
    (hv : okI v) (R : RecPre top (fv v) ms s) (hneg : ltW (fv v) 0 = false) (hsc : scOf ms (binW top s.sc (absW (fv v))) s.ps s.pl.length = (k : Int)) (hk : 0 < k) (hlo : -10 ≤ s.sc - k) (hlen : (recL (s.ps / ((2 ^ k : Nat) : Int)) (dsSide s.ps s.pl k) (binW top (s.sc - k) (absW (fv v)))).length ≤ 1000) :
    Calls Tryz.prog 76 #[.pointer (some ⟨d, 0, none⟩), .int .i64 (sgn v)] w fun e w' => e = .returned (.tuple #[]) ∧ DpPost w w' d v mm fb ni ms ((s.down k).put false (binW top (s.sc - k) (absW (fv v)))) og oh := by
  have hze := order_pos_ne_zero (Nat.pos_of_ne_zero R.hx) R.hx2
  have hng : ¬ sgn v < 0 := by have := hneg; rw [fv_neg hv] at this; simpa using this
  have HV := Lib.hid hv
  clear hv
  have c8 := h.c8
  have HSC := Lib.hid hsc
  have hk31 : k ≤ 31 := by have := (scOf_le ms (binW top s.sc (absW (fv v))) s.ps s.pl.length).2; omega
  have HLEN := Lib.hid hlen
  clear hsc hneg hlen
  have R := Lib.hid R
  have H := Lib.hid h
  clear h
  go_enter Tryz.func76, Tryz.ntmps76
  go_wp2_with fail
  refine (upd127 _ _ _ _ H.out.mm H.out.fz).mono ?_; rintro e w1 ⟨rfl, hm1, hb1⟩
  have c9 : w1.cell? ⟨d, 9, none⟩ = some (.bool false) := (hb1.cell _ (by decide)).trans H.out.c9
  have M1 := Lib.hid (And.intro hm1 hb1)
  clear hm1 hb1
  go_wp2_with fail
  refine (sum128 d v fb ni _ ((M1.out.2.cell _ (by decide)).trans H.out.c5) ((M1.out.2.cell _ (by decide)).trans H.out.c6) (fun i => (M1.out.2.fz i).trans (H.out.fz i)) H.out.fbl HV.out).mono ?_
  rintro e w2 ⟨rfl, fb', ni', q1, q2, q5, q6, hb2⟩
  have M := Lib.hid (DpMid.make H.out M1.out.1 M1.out.2 q1 q2 q5 q6 hb2)
  clear q1 q2 q5 q6 hb2
  go_wp2_with fail
  refine (abs12 (fv v) _ R.out.hv).mono ?_; rintro e w' ⟨rfl, rfl⟩
  go_wp2_with fail
  obtain ⟨fb2, ni2, q2, N⟩ := M.out.now
  have N := Lib.hid N
  clear q2
  refine (R.out.binI _ d s.sc R.out.hS R.out.hS1 N.out.bk.sc).mono ?_; rintro e w3 ⟨rfl, hd3⟩
  have M3 := Lib.hid (M.out.dr hd3)
  clear hd3 N
  obtain ⟨fb3, ni3, q2, N⟩ := M3.out.now
  clear q2
  obtain ⟨e0, e1, hsl⟩ := N.bk.P.slice
  have hst := N.bk.P.1
  have N := Lib.hid N
  obtain ⟨r1, r2⟩ := Lib.hid (binW_range top (absW (fv v)) s.sc R.out.ht (Nat.pos_of_ne_zero R.out.hx) R.out.hx2) |>.out
  have RB := Lib.hid (And.intro r1 r2)
  clear r1 r2
  generalize hB : binW top s.sc (absW (fv v)) = B at *
  have HB := Lib.hid hB
  clear hB
  go_wp2_with fail
  go_quiet (first | (go_at_call 118; exact quiet_same (scaleChange118 d 0 ms B s.ps s.pl.length _ N.out.c7 R.out.m1 R.out.m2 (by have := RB.out; omega) (by have := RB.out; omega) (by have := R.out.p1; omega) (by have := R.out.p2; omega) (by omega) (by have := R.out.pl; omega))))
  have hsc := HSC.out
  (try rw [hsc])
  generalize hW : w3.drewN _ = w4
  have hd4 : Dr w3 w4 := ⟨_, hW⟩
  have M4 := Lib.hid (M3.out.dr hd4)
  clear hW hd4 M3 N c9 hst hsl hsc
  have hk0 : decide ((k : Int) > 0) = true := by simpa using hk
  have s1 : s.sc ≤ 20 := by have := R.out.hS; have := R.out.ht; omega
  have s2 := R.out.hS1
  have hw1 : IntKind.i32.wrap (s.sc - (k : Int)) = s.sc - (k : Int) := IntWalk.i32_in _ (by omega)
  have hlo' : decide (s.sc - (k : Int) < -10) = false := by simpa using hlo
  have hw2 : IntKind.i32.wrap (-(k : Int)) = -(k : Int) := IntWalk.i32_in _ (by omega)
  go_wp2_with fail
  obtain ⟨fb4, ni4, q2, N⟩ := M4.out.now
  clear q2
  have N := Lib.hid N
  refine (load79 _ _ w4 N.out.bk.sc).mono ?_; rintro e w5 ⟨rfl, rfl⟩
  go_wp2_with fail
  refine (addI119 _ s.sc (-(k : Int)) w4 N.out.bk.sc (N.out.fz _) (by omega) (by omega)).mono ?_; rintro e w5 ⟨rfl, hw5⟩
  have h5 : BkStep w4 w5 d og oh { s with sc := s.sc - k } og oh := by
    rw [← hw5]; exact BkStep.set N.out.bk _
  have ST := Lib.hid h5
  have l5 := Nat.lt_of_lt_of_le N.out.lt ST.out.kept.size
  have f5 := fun i => (ST.out.fz i).trans (N.out.fz i)
  have L5 := Lib.hid l5
  have F5 := Lib.hid f5
  clear h5 hw5 l5 f5
  go_wp2_with fail
  refine (downscale120 d 11 s.ps s.pl og k w5 ST.out.now.P (F5.out _) (F5.out _) R.out.p1 R.out.p2 hk (by omega) R.out.pl R.out.pm).mono ?_; rintro e w6 ⟨rfl, hp⟩
  obtain ⟨og6, h6⟩ := BkStep.recP ST.out.now L5.out hp
  have ST6 := Lib.hid (ST.out.trans h6)
  have L6 := Lib.hid (Nat.lt_of_lt_of_le N.out.lt ST6.out.kept.size)
  have F6 := Lib.hid fun i => (ST6.out.fz i).trans (N.out.fz i)
  clear h6 hp ST L5 F5
  go_wp2_with fail
  refine (downscale120 d 13 s.ns s.nl oh k w6 ST6.out.now.N (F6.out _) (F6.out _) R.out.n1 R.out.n2 hk (by omega) R.out.nl R.out.nm).mono ?_; rintro e w7 ⟨rfl, hp⟩
  obtain ⟨oh7, h7⟩ := BkStep.recN ST6.out.now L6.out hp
  have ST7 := Lib.hid (ST6.out.trans h7)
  clear h7 hp ST6 L6 F6
  go_wp2_with fail
  refine (R.out.binI w7 d (s.sc - k) (by have := R.out.hS; omega) hlo ST7.out.now.sc).mono ?_; rintro e w8 ⟨rfl, hd8⟩
  have ST8 := Lib.hid (ST7.out.dr hd8)
  have L8 := Lib.hid (Nat.lt_of_lt_of_le N.out.lt ST8.out.kept.size)
  have F8 := Lib.hid fun i => (ST8.out.fz i).trans (N.out.fz i)
  have R8 := Lib.hid (binW_range top (absW (fv v)) (s.sc - k) R.out.ht (Nat.pos_of_ne_zero R.out.hx) R.out.hx2)
  have D8 := Lib.hid (div_range s.ps (2 ^ k) _ R.out.p1 R.out.p2 (Nat.two_pow_pos _))
  clear hd8 ST7
  go_wp2_with fail
  refine (record121 d 11 _ _ _ og6 w8 ST8.out.now.P L8.out (F8.out _) (F8.out _) D8.out.1 D8.out.2 R8.out.1 R8.out.2 HLEN.out (fun x hx => Nat.lt_of_le_of_lt (dsSide_le _ _ _ _ hx) R.out.pm)).mono ?_
  rintro e w9 ⟨rfl, hp⟩
  obtain ⟨og9, h9⟩ := BkStep.recP ST8.out.now L8.out hp
  have FIN := Lib.hid (M4.out.step (ST8.out.trans h9))
  clear h9 hp
  go_wp2_with fail
  go_end0
  exact ⟨rfl, FIN.out⟩

set_option maxRecDepth 100000 in
set_option maxHeartbeats 1000000 in
theorem rec96_dnN (d v top k : Nat) (mm : Option (Nat × Nat)) (fb : Nat) (ni ms : Int) (s : Bk) (og oh : Option Nat) (w : World) (h : DpAt w d mm fb ni ms s og oh)
    (hv : okI v) (R : RecPre top (fv v) ms s) (hneg : ltW (fv v) 0 = true) (hsc : scOf ms (binW top s.sc (absW (fv v))) s.ns s.nl.length = (k : Int)) (hk : 0 < k) (hlo : -10 ≤ s.sc - k) (hlen : (recL (s.ns / ((2 ^ k : Nat) : Int)) (dsSide s.ns s.nl k) (binW top (s.sc - k) (absW (fv v)))).length ≤ 1000) :
    Calls Tryz.prog 76 #[.pointer (some ⟨d, 0, none⟩), .int .i64 (sgn v)] w fun e w' => e = .returned (.tuple #[]) ∧ DpPost w w' d v mm fb ni ms ((s.down k).put true (binW top (s.sc - k) (absW (fv v)))) og oh := by
  have hze := order_pos_ne_zero (Nat.pos_of_ne_zero R.hx) R.hx2
  have hng : sgn v < 0 := by have := hneg; rw [fv_neg hv] at this; simpa using this
  have HV := Lib.hid hv
  clear hv
  have c8 := h.c8
  have HSC := Lib.hid hsc
  have hk31 : k ≤ 31 := by have := (scOf_le ms (binW top s.sc (absW (fv v))) s.ns s.nl.length).2; omega
  have HLEN := Lib.hid hlen
  clear hsc hneg hlen
  have R := Lib.hid R
  have H := Lib.hid h
  clear h
  go_enter Tryz.func76, Tryz.ntmps76
  go_wp2_with fail
  refine (upd127 _ _ _ _ H.out.mm H.out.fz).mono ?_; rintro e w1 ⟨rfl, hm1, hb1⟩
  have c9 : w1.cell? ⟨d, 9, none⟩ = some (.bool false) := (hb1.cell _ (by decide)).trans H.out.c9
  have M1 := Lib.hid (And.intro hm1 hb1)
  clear hm1 hb1
  go_wp2_with fail
  refine (sum128 d v fb ni _ ((M1.out.2.cell _ (by decide)).trans H.out.c5) ((M1.out.2.cell _ (by decide)).trans H.out.c6) (fun i => (M1.out.2.fz i).trans (H.out.fz i)) H.out.fbl HV.out).mono ?_
  rintro e w2 ⟨rfl, fb', ni', q1, q2, q5, q6, hb2⟩
  have M := Lib.hid (DpMid.make H.out M1.out.1 M1.out.2 q1 q2 q5 q6 hb2)
  clear q1 q2 q5 q6 hb2
  go_wp2_with fail
  refine (abs12 (fv v) _ R.out.hv).mono ?_; rintro e w' ⟨rfl, rfl⟩
  go_wp2_with fail
  obtain ⟨fb2, ni2, q2, N⟩ := M.out.now
  have N := Lib.hid N
  clear q2
  refine (R.out.binI _ d s.sc R.out.hS R.out.hS1 N.out.bk.sc).mono ?_; rintro e w3 ⟨rfl, hd3⟩
  have M3 := Lib.hid (M.out.dr hd3)
  clear hd3 N
  obtain ⟨fb3, ni3, q2, N⟩ := M3.out.now
  clear q2
  obtain ⟨e0, e1, hsl⟩ := N.bk.N.slice
  have hst := N.bk.N.1
  have N := Lib.hid N
  obtain ⟨r1, r2⟩ := Lib.hid (binW_range top (absW (fv v)) s.sc R.out.ht (Nat.pos_of_ne_zero R.out.hx) R.out.hx2) |>.out
  have RB := Lib.hid (And.intro r1 r2)
  clear r1 r2
  generalize hB : binW top s.sc (absW (fv v)) = B at *
  have HB := Lib.hid hB
  clear hB
  go_wp2_with fail
  go_quiet (first | (go_at_call 118; exact quiet_same (scaleChange118 d 0 ms B s.ns s.nl.length _ N.out.c7 R.out.m1 R.out.m2 (by have := RB.out; omega) (by have := RB.out; omega) (by have := R.out.n1; omega) (by have := R.out.n2; omega) (by omega) (by have := R.out.nl; omega))))
  have hsc := HSC.out
  (try rw [hsc])
  generalize hW : w3.drewN _ = w4
  have hd4 : Dr w3 w4 := ⟨_, hW⟩
  have M4 := Lib.hid (M3.out.dr hd4)
  clear hW hd4 M3 N c9 hst hsl hsc
  have hk0 : decide ((k : Int) > 0) = true := by simpa using hk
  have s1 : s.sc ≤ 20 := by have := R.out.hS; have := R.out.ht; omega
  have s2 := R.out.hS1
  have hw1 : IntKind.i32.wrap (s.sc - (k : Int)) = s.sc - (k : Int) := IntWalk.i32_in _ (by omega)
  have hlo' : decide (s.sc - (k : Int) < -10) = false := by simpa using hlo
  have hw2 : IntKind.i32.wrap (-(k : Int)) = -(k : Int) := IntWalk.i32_in _ (by omega)
  go_wp2_with fail
  obtain ⟨fb4, ni4, q2, N⟩ := M4.out.now
  clear q2
  have N := Lib.hid N
  refine (load79 _ _ w4 N.out.bk.sc).mono ?_; rintro e w5 ⟨rfl, rfl⟩
  go_wp2_with fail
  refine (addI119 _ s.sc (-(k : Int)) w4 N.out.bk.sc (N.out.fz _) (by omega) (by omega)).mono ?_; rintro e w5 ⟨rfl, hw5⟩
  have h5 : BkStep w4 w5 d og oh { s with sc := s.sc - k } og oh := by
    rw [← hw5]; exact BkStep.set N.out.bk _
  have ST := Lib.hid h5
  have l5 := Nat.lt_of_lt_of_le N.out.lt ST.out.kept.size
  have f5 := fun i => (ST.out.fz i).trans (N.out.fz i)
  have L5 := Lib.hid l5
  have F5 := Lib.hid f5
  clear h5 hw5 l5 f5
  go_wp2_with fail
  refine (downscale120 d 11 s.ps s.pl og k w5 ST.out.now.P (F5.out _) (F5.out _) R.out.p1 R.out.p2 hk (by omega) R.out.pl R.out.pm).mono ?_; rintro e w6 ⟨rfl, hp⟩
  obtain ⟨og6, h6⟩ := BkStep.recP ST.out.now L5.out hp
  have ST6 := Lib.hid (ST.out.trans h6)
  have L6 := Lib.hid (Nat.lt_of_lt_of_le N.out.lt ST6.out.kept.size)
  have F6 := Lib.hid fun i => (ST6.out.fz i).trans (N.out.fz i)
  clear h6 hp ST L5 F5
  go_wp2_with fail
  refine (downscale120 d 13 s.ns s.nl oh k w6 ST6.out.now.N (F6.out _) (F6.out _) R.out.n1 R.out.n2 hk (by omega) R.out.nl R.out.nm).mono ?_; rintro e w7 ⟨rfl, hp⟩
  obtain ⟨oh7, h7⟩ := BkStep.recN ST6.out.now L6.out hp
  have ST7 := Lib.hid (ST6.out.trans h7)
  clear h7 hp ST6 L6 F6
  go_wp2_with fail
  refine (R.out.binI w7 d (s.sc - k) (by have := R.out.hS; omega) hlo ST7.out.now.sc).mono ?_; rintro e w8 ⟨rfl, hd8⟩
  have ST8 := Lib.hid (ST7.out.dr hd8)
  have L8 := Lib.hid (Nat.lt_of_lt_of_le N.out.lt ST8.out.kept.size)
  have F8 := Lib.hid fun i => (ST8.out.fz i).trans (N.out.fz i)
  have R8 := Lib.hid (binW_range top (absW (fv v)) (s.sc - k) R.out.ht (Nat.pos_of_ne_zero R.out.hx) R.out.hx2)
  have D8 := Lib.hid (div_range s.ns (2 ^ k) _ R.out.n1 R.out.n2 (Nat.two_pow_pos _))
  clear hd8 ST7
  go_wp2_with fail
  refine (record121 d 13 _ _ _ oh7 w8 ST8.out.now.N L8.out (F8.out _) (F8.out _) D8.out.1 D8.out.2 R8.out.1 R8.out.2 HLEN.out (fun x hx => Nat.lt_of_le_of_lt (dsSide_le _ _ _ _ hx) R.out.nm)).mono ?_
  rintro e w9 ⟨rfl, hp⟩
  obtain ⟨oh9, h9⟩ := BkStep.recN ST8.out.now L8.out hp
  have FIN := Lib.hid (M4.out.step (ST8.out.trans h9))
  clear h9 hp
  go_wp2_with fail
  go_end0
  exact ⟨rfl, FIN.out⟩

/-- A MEASUREMENT. -/
theorem record96 (d v top : Nat) (mm : Option (Nat × Nat)) (fb : Nat) (ni ms : Int) (s : Bk) (og oh : Option Nat) (w : World) (h : DpAt w d mm fb ni ms s og oh)
    (hv : okI v) (hzc : s.zc < 4611686018427387904) (R : absW (fv v) ≠ 0 → RecPre top (fv v) ms s) (hp : (recBk top ms (fv v) s).pl.length ≤ 1000) (hn : (recBk top ms (fv v) s).nl.length ≤ 1000) :
    Calls Tryz.prog 76 #[.pointer (some ⟨d, 0, none⟩), .int .i64 (sgn v)] w fun e w' => e = .returned (.tuple #[]) ∧ DpPost w w' d v mm fb ni ms (recBk top ms (fv v) s) og oh := by
  unfold recBk at hp hn ⊢
  by_cases hz : absW (fv v) = 0
  · simp only [if_pos hz]
    exact rec96_zero d v mm fb ni ms s og oh w h hv hz hzc
  have R := R hz
  simp only [if_neg hz] at hp hn ⊢
  by_cases hneg : ltW (fv v) 0 = true
  · simp only [hneg, Bk.st, Bk.row, if_true] at hp hn ⊢
    obtain ⟨k, hk⟩ : ∃ k : Nat, scOf ms (binW top s.sc (absW (fv v))) s.ns s.nl.length = (k : Int) := ⟨(scOf ms (binW top s.sc (absW (fv v))) s.ns s.nl.length).toNat, by have := (scOf_le ms (binW top s.sc (absW (fv v))) s.ns s.nl.length).1; omega⟩
    simp only [hk, Int.toNat_natCast] at hp hn ⊢
    by_cases h0 : k = 0
    · subst h0
      simp only [if_true] at hp hn ⊢
      exact rec96_putN d v top mm fb ni ms s og oh w h hv R hneg hk hn
    · simp only [if_neg h0] at hp hn ⊢
      by_cases hlo : s.sc - (k : Int) < -10
      · simp only [if_pos hlo]
        exact rec96_tooN d v top k mm fb ni ms s og oh w h hv R hneg hk (Nat.pos_of_ne_zero h0) hlo
      · simp only [if_neg hlo] at hp hn ⊢
        exact rec96_dnN d v top k mm fb ni ms s og oh w h hv R hneg hk (Nat.pos_of_ne_zero h0) (by omega) hn
  · have hneg : ltW (fv v) 0 = false := by simpa using hneg
    simp only [hneg, Bk.st, Bk.row, Bool.false_eq_true, if_false] at hp hn ⊢
    obtain ⟨k, hk⟩ : ∃ k : Nat, scOf ms (binW top s.sc (absW (fv v))) s.ps s.pl.length = (k : Int) := ⟨(scOf ms (binW top s.sc (absW (fv v))) s.ps s.pl.length).toNat, by have := (scOf_le ms (binW top s.sc (absW (fv v))) s.ps s.pl.length).1; omega⟩
    simp only [hk, Int.toNat_natCast] at hp hn ⊢
    by_cases h0 : k = 0
    · subst h0
      simp only [if_true] at hp hn ⊢
      exact rec96_putP d v top mm fb ni ms s og oh w h hv R hneg hk hp
    · simp only [if_neg h0] at hp hn ⊢
      by_cases hlo : s.sc - (k : Int) < -10
      · simp only [if_pos hlo]
        exact rec96_tooP d v top k mm fb ni ms s og oh w h hv R hneg hk (Nat.pos_of_ne_zero h0) hlo
      · simp only [if_neg hlo] at hp hn ⊢
        exact rec96_dnP d v top k mm fb ni ms s og oh w h hv R hneg hk (Nat.pos_of_ne_zero h0) (by omega) hp

set_option maxRecDepth 100000 in
theorem count98 (d : Nat) (s : Bk) (og oh : Option Nat) (w : World) (h : BkAt w d s og oh) (h1 : s.pl.length ≤ 1000) (h2 : s.nl.length ≤ 1000) (hs : s.pl.sum + s.nl.sum + s.zc < 4611686018427387904) :
    Calls Tryz.prog 78 #[.pointer (some ⟨d, 0, none⟩)] w fun e w' => e = .returned (U (s.pl.sum + s.nl.sum + s.zc)) ∧ Dr w w' := by
  generalize hA : s.pl.sum = A at *
  generalize hB : s.nl.sum = B at *
  generalize hC : s.zc = C at *
  have k0 : ∀ n, BkAt (w.drewN n) d s og oh := fun n => h.but (PtBut.ofDr (I := []) ⟨n, rfl⟩) (by simp)
  have k1 : ∀ n, Calls Tryz.prog 122 #[.pointer (some ⟨d, 11, none⟩)] (w.drewN n) fun e w' => e = .returned (.int .u64 (A : Int)) ∧ w.drewN n = w' := fun n => by rw [← hA]; exact count122 d 11 s.ps s.pl og (w.drewN n) (k0 n).P h1 (by omega)
  have k2 : ∀ n, Calls Tryz.prog 122 #[.pointer (some ⟨d, 13, none⟩)] (w.drewN n) fun e w' => e = .returned (.int .u64 (B : Int)) ∧ w.drewN n = w' := fun n => by rw [← hB]; exact count122 d 13 s.ns s.nl oh (w.drewN n) (k0 n).N h2 (by omega)
  have k3 := fun n => load80 ⟨d, 15, none⟩ (C : Int) (w.drewN n) (by rw [← hC]; exact (k0 n).z)
  have K1 := Lib.hid k1
  have K2 := Lib.hid k2
  have K3 := Lib.hid k3
  have w1 : IntKind.u64.wrap ((A : Int) + (B : Int)) = (A : Int) + (B : Int) := by rw [IntKind.wrap_u64]; omega
  have w2 : IntKind.u64.wrap ((A : Int) + (B : Int) + (C : Int)) = (A : Int) + (B : Int) + (C : Int) := by rw [IntKind.wrap_u64]; omega
  have H := Lib.hid h
  clear h
  clear H hA hB hC h1 h2 hs k0 k1 k2 k3
  go_enter Tryz.func78, Tryz.ntmps78
  go_wp2_with fail
  refine wp_region_still_tail 14 (by kernel_rfl) (by kernel_rfl) ?_
  change wpStill _ _ (w.drewN _) (fun a' => wpList _ _ _ _ a' (w.drewN _)) _ _
  have q1 := (K1.out 1).mono (R' := fun e w' => e = .returned (.int .u64 (A : Int)) ∧ w' = w.drewN 1) fun _ _ ⟨x, y⟩ => ⟨x, y.symm⟩
  have q2 := (K2.out 1).mono (R' := fun e w' => e = .returned (.int .u64 (B : Int)) ∧ w' = w.drewN 1) fun _ _ ⟨x, y⟩ => ⟨x, y.symm⟩
  have q3 := (K3.out 1).mono (R' := fun e w' => e = .returned (.int .u64 (C : Int)) ∧ w' = w.drewN 1) fun _ _ ⟨x, y⟩ => ⟨x, y.symm⟩
  have Q1 := Lib.hid q1
  have Q2 := Lib.hid q2
  have Q3 := Lib.hid q3
  clear q1 q2 q3 K1 K2 K3
  have HD := Lib.hid (show Dr w (w.drewN 1) from ⟨1, rfl⟩)
  generalize w.drewN 1 = W at *
  simp only [List.take_succ_cons, List.take_zero, List.drop_succ_cons, List.drop_zero]
  repeat still_step
  still_call Q1.out
  repeat still_step
  still_call Q2.out
  repeat still_step
  still_call Q3.out
  repeat still_step
  refine wpStill_nil ?_
  go_wp2_with fail
  go_ret
  exact ⟨ret_int (by omega), HD.out⟩

end Go.Proofs.YtlpddogcnpokfaaGreat.I
