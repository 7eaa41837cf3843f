/- The reference's points and the rounds of bits, as both laws of rounds need them; the counts as they lie in rows. -/
import Derived.Test.YtlpddogcnpokfaaGreatOne
import Derived.Test.YtlpddogcnpokfaaGreatSp7
import Derived.Test.YtlpddogcnpokfaaGreatIn1
import Derived.Deep.RegionHeld3
import Derived.Deep.MidRow
namespace Go.Proofs.YtlpddogcnpokfaaGreat.Lg
open Ieee

/-- a multiple of 2^-20 -/
def Q20 (w : Nat) (k : Int) : Prop := Is w ((k : Rat) * p2 (-20))

theorem sg_sq (b : Bool) : sg b * sg b = 1 := by unfold sg; cases b <;> decide +kernel

theorem natAbs_val (b : Bool) (x : Rat) (k : Int) (hx : 0 ≤ x) (h : sg b * x = (k : Rat) * p2 (-20)) : x = ((k.natAbs : Nat) : Rat) * p2 (-20) := by
  have hp := p2_pos (-20)
  by_cases hk : 0 ≤ k
  · have e : (k : Rat) = ((k.natAbs : Nat) : Rat) := by rw [← Rat.intCast_natCast]; congr 1; omega
    cases b
    · rw [← e, ← h]; unfold sg; simp
    · have h' : - x = (k : Rat) * p2 (-20) := by rw [← h]; unfold sg; simp; grind
      have hk0 : (0 : Rat) ≤ (k : Rat) := by rw [e]; exact Rat.natCast_nonneg
      have := Rat.mul_nonneg hk0 (Rat.le_of_lt hp)
      rw [← e]; grind
  · have e : -(k : Rat) = ((k.natAbs : Nat) : Rat) := by rw [← Rat.intCast_neg, ← Rat.intCast_natCast]; congr 1; omega
    cases b
    · have h' : x = (k : Rat) * p2 (-20) := by rw [← h]; unfold sg; simp
      have hk0 : (0 : Rat) ≤ -(k : Rat) := by rw [e]; exact Rat.natCast_nonneg
      have := Rat.mul_nonneg hk0 (Rat.le_of_lt hp)
      rw [← e]; grind
    · have h' : - x = (k : Rat) * p2 (-20) := by rw [← h]; unfold sg; simp; grind
      rw [← e]; grind

theorem p2_nat_neg (n : Nat) : p2 (-(n : Int)) * ((2 ^ n : Nat) : Rat) = 1 := by
  rw [← p2_nat, ← p2_add, show -(n : Int) + (n : Int) = 0 from by omega, p2_zero]

/-- a number cut to a whole one is not greater -/
theorem cut_le (m : Nat) (i : Int) : (((m <<< i.toNat) / 2 ^ (-i).toNat : Nat) : Rat) ≤ (m : Rat) * p2 i := by
  rw [Nat.shiftLeft_eq]
  by_cases h : 0 ≤ i
  · have e1 : (-i).toNat = 0 := by omega
    have e2 : p2 i = ((2 ^ i.toNat : Nat) : Rat) := by rw [← p2_nat]; congr 1; omega
    rw [e1, Nat.pow_zero, Nat.div_one, Rat.natCast_mul, e2]
    exact Rat.le_refl
  · have e1 : i.toNat = 0 := by omega
    rw [e1, Nat.pow_zero, Nat.mul_one]
    have h1 : m / 2 ^ (-i).toNat * 2 ^ (-i).toNat ≤ m := Nat.div_mul_le_self _ _
    have h2 := Rat.natCast_le_natCast.2 h1
    rw [Rat.natCast_mul] at h2
    have h3 := Rat.mul_le_mul_of_nonneg_right (c := p2 i) h2 (Rat.le_of_lt (p2_pos i))
    have h4 := p2_nat_neg (-i).toNat
    rw [show -(((-i).toNat : Nat) : Int) = i from by omega] at h4
    rw [Rat.mul_assoc, Rat.mul_comm _ (p2 i), h4, Rat.mul_one] at h3
    exact h3

theorem q20_cut {w : Nat} {k : Int} (h : Q20 w k) {s : Bool} {m : Nat} {i : Int} (hr : double.read w = .number s m i) : (m <<< i.toNat) / 2 ^ (-i).toNat * 1048576 ≤ k.natAbs := by
  have hv : (m : Rat) * p2 i = ((k.natAbs : Nat) : Rat) * p2 (-20) := by
    obtain ⟨s', m', i', hr', e⟩ := h
    rw [hr] at hr'
    cases hr'
    exact natAbs_val s _ _ (Rat.mul_nonneg Rat.natCast_nonneg (Rat.le_of_lt (p2_pos i))) e.symm
  have h1 := cut_le m i
  rw [hv] at h1
  have h4 := p2_nat_neg 20
  have e : ((2 ^ 20 : Nat) : Rat) = ((1048576 : Nat) : Rat) := rfl
  rw [e, show -((20 : Nat) : Int) = -20 from rfl] at h4
  have h5 := Rat.mul_le_mul_of_nonneg_right (c := ((1048576 : Nat) : Rat)) h1 Rat.natCast_nonneg
  rw [Rat.mul_assoc, h4, Rat.mul_one, ← Rat.natCast_mul] at h5
  exact Rat.natCast_le_natCast.1 h5

end Go.Proofs.YtlpddogcnpokfaaGreat.Lg
namespace Go.Proofs.YtlpddogcnpokfaaGreat
open Go.RowKit Go.Maps

/-- a law's end: true, and old memory as it was -/
def LawT (w : World) (e : Ending) (w' : World) : Prop := e = .returned (.bool true) ∧ Kept [] w w'

theorem info24 : ∃ i, Tryz.prog.info? 24 = some i ∧ i.zero = some (.slice none 0 0) ∧ i.size = 1 ∧ i.bytes = 24 := by
  have h : (Tryz.prog.info? 24).map (fun i => (i.zero, i.size, i.bytes)) = some (some (.slice none 0 0), 1, 24) := by kernel_rfl
  cases hi : Tryz.prog.info? 24 with
  | none => rw [hi] at h; cases h
  | some i => rw [hi] at h; simp only [Option.map_some, Option.some.injEq, Prod.mk.injEq] at h; exact ⟨i, rfl, h.1, h.2.1, h.2.2⟩

theorem info43 : ∃ i, Tryz.prog.info? 43 = some i ∧ i.zero = some (.agg exZero.toArray) ∧ i.size = 11 ∧ i.bytes = 120 := by
  have h : (Tryz.prog.info? 43).map (fun i => (i.zero, i.size, i.bytes)) = some (some (.agg exZero.toArray), 11, 120) := by kernel_rfl
  cases hi : Tryz.prog.info? 43 with
  | none => rw [hi] at h; cases h
  | some i => rw [hi] at h; simp only [Option.map_some, Option.some.injEq, Prod.mk.injEq] at h; exact ⟨i, rfl, h.1, h.2.1, h.2.2⟩

/-- a round that came in -/
def FlIn (w : World) (v : Value) (l : List Nat) : Prop := (l ≠ [] ∧ SlAt w v (l.map Fl)) ∨ (l = [] ∧ (v = .slice none 0 0 ∨ ∃ a c, v = .slice (some a) 0 c))

theorem FlIn.kept {w w' : World} {v : Value} {l : List Nat} {S : List Nat} (h : FlIn w v l) (hk : Kept S w w') (hS : ∀ i, i ∈ S → w.heap.size ≤ i) : FlIn w' v l := by
  rcases h with ⟨h1, h2⟩ | h
  · exact .inl ⟨h1, h2.kept (hk.mono fun i hi => .inr (hS i hi))⟩
  · exact .inr h

theorem FlIn.form {w : World} {v : Value} {l : List Nat} (h : FlIn w v l) : ∃ p c, v = .slice p l.length c := by
  rcases h with ⟨_, h⟩ | ⟨rfl, rfl | ⟨a, c, rfl⟩⟩
  · obtain ⟨p, c, e, _⟩ := h.read
    rw [List.length_map] at e
    exact ⟨p, c, e⟩
  · exact ⟨_, _, rfl⟩
  · exact ⟨_, _, rfl⟩

set_option maxRecDepth 100000 in
theorem bits20_none (p : Option Addr) (c : Nat) (w : World) :
    Calls Tryz.prog 20 #[.slice p 0 c] w fun e w' => e = .returned (.slice none 0 0) ∧ w = w' := by
  go_enter Tryz.func20, Tryz.ntmps20
  go_wp2_with fail
  refine wp_loop_once ?_
  go_wp2_with fail
  go_ret
  exact ⟨rfl, rfl⟩

theorem bits20_in (v : Value) (l : List Nat) (w : World) (hv : FlIn w v l) (hl : l.length ≤ 1000) :
    Calls Tryz.prog 20 #[v] w fun e w' => ∃ v', e = .returned v' ∧ w'.ownsRow w.heap.size 23 1 v' l.length (l.map U) ∧ Kept [] w w' := by
  rcases hv with ⟨_, hv⟩ | ⟨rfl, hv⟩
  · exact bits20 v l w hv hl
  · have : ∃ p c, v = .slice p 0 c := by
      rcases hv with rfl | ⟨a, c, rfl⟩
      · exact ⟨_, _, rfl⟩
      · exact ⟨_, _, rfl⟩
    obtain ⟨p, c, rfl⟩ := this
    refine (bits20_none p c w).mono ?_
    rintro e w' ⟨rfl, rfl⟩
    exact ⟨_, rfl, ⟨rfl, .inl ⟨rfl, rfl⟩⟩, Kept.refl _ _⟩

set_option maxHeartbeats 1000000 in
set_option maxRecDepth 100000 in
theorem point19_any (size scale : Int) (p : Option Addr) (c : Nat) (w : World) : Calls Tryz.prog 19 #[.int .i32 size, .int .i32 scale, .slice p 0 c] w fun e w' => e = .returned (.tuple #[.agg exZero.toArray, .bool false]) ∧ Kept [] w w' := by
  go_enter Tryz.func19, Tryz.ntmps19
  go_wp2_with (refine wpList_store_row rfl 43 _ _ rfl w.heap.size exZero.toArray rfl rfl 43 exZero.toArray (MapKept.heap_alloc w _).1 exz_sz rfl exz_one ?_)
  (try simp only [Exit.inBlock, Exit.then])
  refine bodyPost_ret (res19 (g := w.heap.size) (cs := exZero.toArray) (op := false) rfl rfl (setRow_heap _ _ _ _ _ _ (MapKept.heap_alloc w _).1) rfl) rfl ?_
  exact ⟨rfl, setRow_kept ((Kept.refl [] w).alloc _) (.inr (Nat.le_refl _))⟩

theorem run_append_none (w : World) (base : Nat) (v : Value) (n : Nat) (xs : List Value) (ty : TypeId) (hown : w.ownsRow base 32 1 v n xs) (hn : n ≤ maxLen) :
    (Builtin.append_ #[22, 22] ty #[v, .slice none 0 0]).run Tryz.prog w = .ok v w := by
  obtain ⟨i0, hi, hz0, hz1, hz2⟩ := info32
  obtain ⟨hl, hr⟩ := hown
  rcases hr with ⟨rfl, rfl⟩ | ⟨g, cap, cur, rfl, h2, h3, h4, h5, h6, h7⟩
  · simp [Builtin.append_, run_underlying Tryz.underlying22, sizeOf, typeInfo, hi, Builtin.lenOf, Builtin.firstCells]
  · simp [Builtin.append_, run_underlying Tryz.underlying22, sizeOf, typeInfo, hi, Builtin.lenOf, Builtin.firstCells, h4]
    simp [storeCells]

theorem run_append_in (w : World) (base : Nat) (v : Value) (n : Nat) (xs : List Value) (ty : TypeId) (x : Value) (l : List Nat) (hown : w.ownsRow base 32 1 v n xs) (hx : FlIn w x l) (hn : n + l.length ≤ 1000) (hb : base ≤ w.heap.size) :
    ∃ v' w', (Builtin.append_ #[22, 22] ty #[v, x]).run Tryz.prog w = .ok v' w' ∧ w'.ownsRow base 32 1 v' (n + l.length) (xs ++ l.map Fl) ∧ w.grownBy w' v.ownBlock := by
  obtain ⟨i0, hi, hz0, hz1, hz2⟩ := info32
  have key : ∀ a c, x = .slice (some a) l.length c → (∀ j u, (l.map Fl)[j]? = some u → w.cell? (a.add j) = some u) → ∃ v' w', (Builtin.append_ #[22, 22] ty #[v, x]).run Tryz.prog w = .ok v' w' ∧ w'.ownsRow base 32 1 v' (n + l.length) (xs ++ l.map Fl) ∧ w.grownBy w' v.ownBlock := by
    rintro a c rfl hc
    obtain ⟨v', w', hr, h2, h3, _, _⟩ := run_append_own_at (P := Tryz.prog) w base 22 ty 32 i0 (.float .f64 0) 1 8 Tryz.underlying22 hi hz0 hz1 hz2 rfl (by decide) v n xs hown a l.length c (l.map Fl) (by simp) hc (fun u hu => by obtain ⟨k, _, rfl⟩ := List.mem_map.1 hu; rfl) (by unfold maxLen; omega) (by omega) hb
    exact ⟨v', w', hr, h2, h3⟩
  rcases hx with ⟨hne, hs⟩ | ⟨rfl, rfl | ⟨a, c, rfl⟩⟩
  · rcases hs with ⟨_, h⟩ | ⟨a, c, h1, _, _, _, h5⟩
    · exact absurd (List.map_eq_nil_iff.1 h) hne
    · rw [List.length_map] at h1
      exact key a c h1 h5
  · refine ⟨v, w, run_append_none w base v n xs ty hown (by unfold maxLen; omega), by simpa using hown, ⟨rfl, rfl, rfl, Nat.le_refl _, fun _ _ _ => rfl⟩⟩
  · exact key a c rfl (fun j u h => by simp at h)

theorem wpList_append_in {ops : Array Oper} {rest : List Oper} {o : Oper} {a : Act} {w : World} {Q : Exit → Act → World → Prop} (hgd : o.guard = none) (s x : Operand)
    (ho : o.op = .call { callee := .builtin .append, args := #[s, x], argTypes := #[22, 22] }) (base : Nat) (v : Value) (n : Nat) (xs : List Value) (hs : a.eval s = v) (hown : w.ownsRow base 32 1 v n xs)
    (xv : Value) (l : List Nat) (hx : a.eval x = xv) (hin : FlIn w xv l) (hn : n + l.length ≤ 1000) (hb : base ≤ w.heap.size)
    (h : ∀ v' w', w'.ownsRow base 32 1 v' (n + l.length) (xs ++ l.map Fl) → w.grownBy w' v.ownBlock → wpList Tryz.prog ops Q rest (a.put o.dst v') w') :
    wpList Tryz.prog ops Q (o :: rest) a w := by
  refine wpList_plain hgd fun K hK => ?_
  obtain ⟨v', w', hr, h2, h3⟩ := run_append_in w base v n xs o.type xv l hown hin hn hb
  unfold Oper.wp execOp
  simp only [ho, resolve, invoke, builtin, Sem.run_bind, Sem.run_pure, Result.andThen_ok, List.map_toArray, List.map_cons, List.map_nil, hs, hx, hr]
  exact hK _ _ (h v' w' h2 h3)

/-- the reference's data point of a list, as it lies -/
structure Ref (w : World) (l : List Nat) (top : Nat) (size scale : Int) (cs : List Value) : Prop where
  is : (l = [] ∧ cs = exZero) ∨ (l ≠ [] ∧ Fine top size ((top : Int) - scale).toNat (top + 10) l ∧ SpPt w l top size scale cs)
  len : cs.length = 11
  one : ∀ v, v ∈ cs → v.oneCell' = true
  ty : ∀ v, v ∈ cs → ∀ a n c, v = .slice (some a) n c → ∃ cur, w.heap[a.block]? = some (.cells cur 23 (0, 0))

theorem SpPt.keptS {w w' : World} {l : List Nat} {top : Nat} {size scale : Int} {cs : List Value} {S : List Nat} (h : SpPt w l top size scale cs) (hk : Kept S w w') (hS : ∀ v, v ∈ cs → ∀ a n c, v = .slice (some a) n c → a.block ∉ S) : SpPt w' l top size scale cs := by
  obtain ⟨b, s, stp, lp, stn, ln, va, vb, h1, h2, h3, h4, h5, h6, h7, h8, h9, h10, h11⟩ := h
  exact ⟨b, s, stp, lp, stn, ln, va, vb, h1, h2, h3, h4, h5, h6, h7, h8, h9, h10.keptS hk (hS va (by rw [h9]; simp)), h11.keptS hk (hS vb (by rw [h9]; simp))⟩

/-- what changes are rows of other types -/
theorem Ref.keptS {w w' : World} {l : List Nat} {top : Nat} {size scale : Int} {cs : List Value} {S : List Nat} (h : Ref w l top size scale cs) (hk : Kept S w w') (hS : ∀ i, i ∈ S → w.heap.size ≤ i ∨ ∃ cur t, w.heap[i]? = some (.cells cur t (0, 0)) ∧ t ≠ 23) : Ref w' l top size scale cs := by
  have hno : ∀ v, v ∈ cs → ∀ a n c, v = .slice (some a) n c → a.block ∉ S := fun v hv a n c e hm => by
    obtain ⟨cur, hc⟩ := h.ty v hv a n c e
    rcases hS _ hm with h1 | ⟨cur', t, h1, h2⟩
    · have := heap_lt hc; omega
    · rw [hc] at h1; injection h1 with h1; injection h1 with _ h1; exact h2 h1.symm
  refine ⟨h.is.imp id fun ⟨h1, h2, h3⟩ => ⟨h1, h2, h3.keptS hk hno⟩, h.len, h.one, fun v hv a n c e => ?_⟩
  obtain ⟨cur, hc⟩ := h.ty v hv a n c e
  exact ⟨cur, hk.obj hc (hno v hv a n c e)⟩

theorem Ref.kept {w w' : World} {l : List Nat} {top : Nat} {size scale : Int} {cs : List Value} (h : Ref w l top size scale cs) (hk : Kept [] w w') : Ref w' l top size scale cs := h.keptS hk (by simp)

theorem Ref.of_point {w' : World} {l : List Nat} {top : Nat} {size scale : Int} {cs : List Value} {op : Bool} (hne : l ≠ []) (hF : Fine top size ((top : Int) - scale).toNat (top + 10) l) (h : SpPt w' l top size scale cs) (ht : PtTy w' (.returned (.tuple #[.agg (List.toArray cs), .bool op]))) : Ref w' l top size scale cs := by
  obtain ⟨b, s, stp, lp, stn, ln, va, vb, h1, h2, h3, h4, h5, h6, h7, h8, h9, h10, h11⟩ := id h
  refine ⟨.inr ⟨hne, hF, h⟩, by rw [h9]; rfl, fun v hv => ?_, fun v hv => ht cs op rfl v hv⟩
  have o1 := slForm h10; have o2 := slForm h11
  rw [h9] at hv
  simp [U] at hv
  rcases hv with rfl | rfl | rfl | rfl | rfl | rfl | rfl | rfl | rfl | rfl | rfl <;> first | exact o1 | exact o2 | rfl

theorem Ref.zero (w : World) (top : Nat) (size scale : Int) : Ref w [] top size scale exZero :=
  ⟨.inl ⟨rfl, rfl⟩, rfl, fun v hv => (Array.all_eq_true_iff_forall_mem.1 exz_one) v (by simpa using hv), fun v hv a n c e => by subst e; simp [exZero, U] at hv⟩

theorem grow_own {w w' : World} {v o : Value} {b1 b2 n1 n2 k1 k2 : Nat} {e1 e2 : TypeId} {xs ys : List Value} (h : w.ownsRow b1 e1 k1 v n1 xs) (ho : w.ownsRow b2 e2 k2 o n2 ys) (he : e1 ≠ e2) (hg : w.grownBy w' o.ownBlock) : w'.ownsRow b1 e1 k1 v n1 xs :=
  own_keptK h (grownBy_kept hg) fun z hz hm => by
    rcases own_ne h ho he with e | e
    · rw [e] at hz; cases hz
    · simp at hm; exact e (hz.trans hm.symm)

theorem point19_all (l : List Nat) (n : Nat) (top : Nat) (size scale : Int) (V : Value) (base : Nat) (w : World) (hn : n = l.length) (hl : w.ownsRow base 32 1 V n (l.map Fl)) (hlt : ∀ v, v ∈ l → v < 18446744073709551616) (hll : l.length ≤ 1000) (h1 : 1 ≤ size) (h2 : size ≤ 200) (h3 : -10 ≤ scale) (h4 : scale ≤ 20) (ht : (top : Int) = max scale 0) :
    Calls Tryz.prog 19 #[.int .i32 size, .int .i32 scale, V] w fun e w' => ∃ cs op, e = .returned (.tuple #[.agg (List.toArray cs), .bool op]) ∧ Kept [] w w' ∧ cs.length = 11 ∧ (∀ v, v ∈ cs → v.oneCell' = true) ∧ (op = false → Ref w' l top size scale cs) := by
  subst hn
  by_cases hne : l = []
  · subst hne
    obtain ⟨ad, c, rfl⟩ := own_shape hl
    refine (point19_any size scale ad c w).mono ?_
    rintro e w' ⟨rfl, hk⟩
    exact ⟨exZero, false, rfl, hk, rfl, (Ref.zero w' top size scale).one, fun _ => Ref.zero w' top size scale⟩
  · refine (point19x l top size scale V w (SlAt.own hl) hlt hll hne h1 h2 h3 h4 ht).mono ?_
    rintro e w' ⟨⟨cs, op, rfl, hk, h⟩, hty⟩
    rcases h with ⟨rfl, rfl, _⟩ | ⟨rfl, hF, hp⟩
    · exact ⟨exZero, true, rfl, hk, rfl, (Ref.zero w' top size scale).one, fun h => by cases h⟩
    · have := Ref.of_point hne hF hp hty
      exact ⟨cs, false, rfl, hk, this.len, this.one, fun _ => this⟩

theorem floats22_all (delta : Bool) (top : Nat) (ms S : Int) (rs : List (List Nat)) (v : Value) (vs : List Value) (w : World) (hv : SlAt w v vs) (hvs : vs.length = rs.length) (hr : ∀ i, i < rs.length → SlAt w (vs.getD i undef) ((rs.getD i []).map U))
    (hf : ∀ i, i < rs.length → ∃ B, Fine top ms ((top : Int) - S).toNat B (accL delta rs i)) (hlen : rs.length ≤ 500) (htot : rs.flatten.length ≤ 500)
    (hs : 1 ≤ ms) (hs2 : ms ≤ 200) (ht : top ≤ 20) (hS : S ≤ top) (hS2 : -10 ≤ S) :
    Calls Tryz.prog 22 #[.bool delta, .int .i32 ms, .int .i32 S, v] w (ExPost w top ms S delta rs) := by
  cases delta
  · exact floats22c top ms S rs v vs w hv hvs hr hf hlen htot hs hs2 ht hS hS2 over71
  · exact floats22d top ms S rs v vs w hv hvs hr hf hlen htot hs hs2 ht hS hS2 over71

theorem Ref.fine {w : World} {l : List Nat} {top : Nat} {size scale : Int} {cs : List Value} (h : Ref w l top size scale cs) (_hS : scale ≤ top) (hS2 : -10 ≤ scale) (ht : (top : Int) = max scale 0) : ∃ B, Fine top size ((top : Int) - scale).toNat B l := by
  rcases h.is with ⟨rfl, _⟩ | ⟨_, h, _⟩
  · exact ⟨top + 10, fun v h => (by cases h), fun v h => (by cases h), fun v h => (by cases h), by omega, Nat.le_refl _, fun x hx => by simp [pIs] at hx, fun x hx => by simp [nIs] at hx⟩
  · exact ⟨_, h⟩

theorem acc_len {delta : Bool} {rs : List (List Nat)} (h6 : rs.length ≤ 6) (h60 : ∀ i, i < rs.length → (rs.getD i []).length ≤ 60) {m : Nat} (hm : m < rs.length) : (accL delta rs m).length ≤ 1000 ∧ (preL delta rs m).length + (rs.getD m []).length = (accL delta rs m).length ∧ rs.flatten.length ≤ 500 := by
  have hfl : ∀ l : List (List Nat), (∀ x, x ∈ l → x.length ≤ 60) → l.flatten.length ≤ 60 * l.length := by
    intro l
    induction l with
    | nil => intro _; simp
    | cons x l ih =>
      intro h
      have := ih fun y hy => h y (List.mem_cons_of_mem _ hy)
      have := h x List.mem_cons_self
      simp only [List.flatten_cons, List.length_append, List.length_cons]; omega
  have hmem : ∀ x, x ∈ rs → x.length ≤ 60 := fun x hx => by
    obtain ⟨i, hi⟩ := List.getElem?_of_mem hx
    have hlt := (List.getElem?_eq_some_iff.1 hi).1
    have := h60 i hlt
    rw [List.getD_eq_getElem?_getD, hi] at this
    exact this
  have h1 := hfl rs hmem
  have h2 := hfl (rs.take m) fun x hx => hmem x (List.mem_of_mem_take hx)
  have h3 := h60 m hm
  have h4 : (rs.take m).length ≤ 6 := by rw [List.length_take]; omega
  refine ⟨?_, by unfold accL; simp, by omega⟩
  unfold accL preL
  rw [List.length_append]
  cases delta <;> simp only [Bool.false_eq_true, if_false, if_true, List.length_nil] <;> omega

theorem acc_mem {delta : Bool} {rs : List (List Nat)} {m : Nat} (hm : m < rs.length) {v : Nat} (h : v ∈ accL delta rs m) : ∃ i, i < rs.length ∧ v ∈ rs.getD i [] := by
  unfold accL at h
  rcases List.mem_append.1 h with h | h
  · unfold preL at h
    cases delta
    · simp only [Bool.false_eq_true, if_false] at h
      obtain ⟨x, hx, hv⟩ := List.mem_flatten.1 h
      obtain ⟨i, hi⟩ := List.getElem?_of_mem (List.mem_of_mem_take hx)
      exact ⟨i, (List.getElem?_eq_some_iff.1 hi).1, by rw [List.getD_eq_getElem?_getD, hi]; exact hv⟩
    · simp at h
  · exact ⟨m, hm, h⟩

theorem list11 {α : Type} {cs : List α} (h : cs.length = 11) : ∃ c0 c1 c2 c3 c4 c5 c6 c7 c8 c9 c10, cs = [c0, c1, c2, c3, c4, c5, c6, c7, c8, c9, c10] := by
  match cs, h with
  | [c0, c1, c2, c3, c4, c5, c6, c7, c8, c9, c10], _ => exact ⟨_, _, _, _, _, _, _, _, _, _, _, rfl⟩

theorem getD_snoc {α : Type} (xs : List α) (x d : α) (i : Nat) : (xs ++ [x]).getD i d = if i < xs.length then xs.getD i d else if i = xs.length then x else d := by
  by_cases h : i < xs.length
  · rw [if_pos h, List.getD_eq_getElem?_getD, List.getElem?_append_left h, ← List.getD_eq_getElem?_getD]
  · rw [if_neg h]
    by_cases h2 : i = xs.length
    · rw [if_pos h2, List.getD_eq_getElem?_getD, List.getElem?_append_right (by omega), h2, Nat.sub_self]; rfl
    · rw [if_neg h2, List.getD_eq_getElem?_getD, List.getElem?_eq_none (by simp; omega)]; rfl

theorem flat_row {es : List (List Value)} {k : Nat} (h : ∀ i, i < es.length → (es.getD i []).length = k) : ∀ m, m < es.length → ∀ j u, (es.getD m [])[j]? = some u → es.flatten[m * k + j]? = some u := by
  induction es with
  | nil => intro m hm; simp at hm
  | cons x es ih =>
    intro m hm j u hj
    have hx : x.length = k := h 0 (by simp)
    cases m with
    | zero =>
      have hj' : x[j]? = some u := hj
      have hjl := (List.getElem?_eq_some_iff.1 hj').1
      rw [Nat.zero_mul, Nat.zero_add, List.flatten_cons, List.getElem?_append_left hjl]
      exact hj'
    | succ m =>
      have := ih (fun i hi => h (i + 1) (by simp; omega)) m (by simp at hm; omega) j u hj
      rw [List.flatten_cons, List.getElem?_append_right (by rw [hx, Nat.succ_mul]; omega), hx, show (m + 1) * k + j - k = m * k + j from by rw [Nat.succ_mul]; omega]
      exact this

theorem own_cell {w : World} {base : Nat} {e : TypeId} {k g n cap : Nat} {xs : List Value} (h : w.ownsRow base e k (.slice (some ⟨g, 0, none⟩) n cap) n xs) {i : Nat} {u : Value} (hi : xs[i]? = some u) : w.cell? ⟨g, i, none⟩ = some u := by
  rcases h.2 with ⟨h1, _⟩ | ⟨g', cap', cur, h1, h2, h3, h4, h5, h6, h7⟩
  · cases h1
  · injection h1 with h1 _ _
    injection h1 with h1
    injection h1 with h1
    subst h1
    rw [← h7] at hi
    rw [List.getElem?_take] at hi
    split at hi
    · exact cellOf h3 (by simpa using hi)
    · cases hi

theorem own_row {w : World} {base : Nat} {e : TypeId} {k g n cap : Nat} {es : List (List Value)} (h : w.ownsRow base e k (.slice (some ⟨g, 0, none⟩) n cap) n es.flatten) (hes : ∀ i, i < es.length → (es.getD i []).length = k) {m : Nat} (hm : m < es.length) : w.rangeAt g (m * k) (es.getD m []) := fun j u hj =>
  own_cell h (flat_row hes m hm j u hj)

end Go.Proofs.YtlpddogcnpokfaaGreat
