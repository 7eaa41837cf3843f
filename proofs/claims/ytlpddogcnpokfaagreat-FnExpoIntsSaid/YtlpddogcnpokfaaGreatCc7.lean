/- FnExpoInts: whole numbers are counted as the same floating point numbers are. No condition beyond those of the statement. -/
import Derived.Test.YtlpddogcnpokfaaGreatCl
import Derived.Test.YtlpddogcnpokfaaGreatL7
namespace Go.Proofs.YtlpddogcnpokfaaGreat
open Go.ChangeShapes Go.WideShapes Go.ChangeAt Go.RowKit Go.Deep
theorem cells2 : Tryz.prog.cellsOf 2 = 1 := by kernel_rfl
/-- the word of a whole number that came in -/
def wordOf (v : Value) : Nat := match v with | .int _ k => (IntKind.u64.wrap k).toNat | _ => 0
theorem trod_i64 {H : Type} {enc : TypeId × Value → H} {W : World} {base n : Nat} {sp : Nat → Bool} {hd : Bool} {v : Value} {x : DataW H × List MemPlace} (h : DataW.trod enc Tryz.prog W base sp hd n 2 [v] = some x) : v = I.Iw (wordOf v) ∧ wordOf v < 18446744073709551616 := by
  obtain ⟨m, h1, _, hw⟩ := DataW.trod_int Tryz.underlying2 h
  injection h1 with h1 _
  subst h1
  have e1 : IntKind.i64.min = -9223372036854775808 := by decide
  have hm : -9223372036854775808 ≤ m ∧ m ≤ 9223372036854775807 := by simpa [Lit.wf, e1] using hw
  have e := IntKind.wrap_u64 m
  have e2 : wordOf (.int .i64 m) = (IntKind.u64.wrap m).toNat := rfl
  rw [e2]
  refine ⟨?_, by omega⟩
  have e3 : m = I.sgn (IntKind.u64.wrap m).toNat := by
    unfold I.sgn
    rw [IntKind.wrap_i64]
    omega
  exact congrArg (Value.int .i64) e3
theorem cells42 : Tryz.prog.cellsOf 42 = 1 := by kernel_rfl
set_option maxRecDepth 100000 in
/-- a round that came in -/
theorem open_inin {H : Type} {enc : TypeId × Value → H} {W : World} {v : Value} {n : Nat} {x : DataW H × List MemPlace} (h : DataW.trod enc Tryz.prog W 0 (fun _ => true) true n 42 [v] = some x) :
    ∃ l : List Nat, I.InIn W v l ∧ (∀ n, n ∈ l → n < 18446744073709551616) ∧ l.length ≤ maxLen := by
  rcases open_slice1 Tryz.underlying42 cells2 h with ⟨hcs, _⟩ | ⟨a, len, cap, m, n, V, D, Pl, hcs, _, hl, hm, hmm, hx, hV⟩
  · injection hcs with hcs _
    exact ⟨[], .inr ⟨rfl, .inl hcs⟩, fun n hn => (by cases hn), Nat.zero_le _⟩
  · injection hcs with hcs _
    subst hcs
    have hmc : m = cap := by simpa using hmm
    subst hmc
    rcases Nat.eq_zero_or_pos len with h0 | h0
    · subst h0
      exact ⟨[], .inr ⟨rfl, .inr ⟨a, m, rfl⟩⟩, fun n hn => (by cases hn), Nat.zero_le _⟩
    · have hlt : a.block < W.heap.size := by
        have := cell_lt (hV 0 (by omega)).1
        rwa [Addr_add_block] at this
      have hfl : ∀ i, i < len → V i = I.Iw (wordOf (V i)) ∧ wordOf (V i) < 18446744073709551616 := fun i hi => trod_i64 (hV i (by omega)).2
      refine ⟨(List.range len).map (fun i => wordOf (V i)), .inl ⟨?_, .inr ⟨a, m, by simp, hlt, by simpa using hl, hm, ?_⟩⟩, ?_, by simp; omega⟩
      · intro e
        have := congrArg List.length e
        simp at this; omega
      · intro i u hi
        rw [List.map_map, List.getElem?_map] at hi
        rcases Nat.lt_or_ge i len with h1 | h1
        · rw [List.getElem?_range h1] at hi
          injection hi with hi
          rw [(hV i (by omega)).1, ← hi]
          exact congrArg some (hfl i h1).1
        · rw [List.getElem?_eq_none (by simpa using h1)] at hi; cases hi
      · intro k hk
        obtain ⟨i, hi, rfl⟩ := List.mem_map.1 hk
        exact (hfl i (by simpa using hi)).2
set_option maxRecDepth 100000 in
/-- rounds that came in -/
theorem open_iounds {H : Type} {enc : TypeId × Value → H} {W : World} {v : Value} {d : DataW H} {p : List MemPlace} {base : Nat} (hval : Value.okWide Tryz.prog W .any base 39 v) (h : DataW.Trod enc Tryz.prog W 0 (fun _ => true) true 39 v d p) :
    ∃ (rs : List (List Nat)) (rv : List Value), SlAt W v rv ∧ rv.length = rs.length ∧ (∀ i, i < rs.length → I.InIn W (rv.getD i undef) (rs.getD i [])) ∧ (∀ i, i < rs.length → ∀ v, v ∈ rs.getD i [] → v < 18446744073709551616) ∧ (∀ i, i < rs.length → (rs.getD i []).length ≤ maxLen) := by
  obtain ⟨fuel, hf⟩ := h
  obtain ⟨a0, len, cap, rfl⟩ := okWide_slice Tryz.underlying39 hval
  rcases open_slice1 Tryz.underlying39 cells42 hf with ⟨hcs, _⟩ | ⟨a, len', cap', m, n, V, D, Pl, hcs, _, hl, hm, hmm, hx, hV⟩
  · simp [Value.cells] at hcs
    obtain ⟨rfl, rfl, rfl⟩ := hcs
    exact ⟨[], [], .inl ⟨rfl, rfl⟩, rfl, fun i hi => (by simp at hi), fun i hi => (by simp at hi), fun i hi => (by simp at hi)⟩
  · simp [Value.cells] at hcs
    obtain ⟨rfl, rfl, rfl⟩ := hcs
    have hmc : m = cap := by simpa using hmm
    subst hmc
    have hlt : a.block < W.heap.size := by
      simp only [Value.okWide, Tryz.underlying39, Cell.okWide, Cell.ok] at hval
      exact has_lt hval.2.2
    obtain ⟨L, hL⟩ := choose_lt (α := List Nat) (n := len) (p := fun i l => I.InIn W (V i) l ∧ (∀ n, n ∈ l → n < 18446744073709551616) ∧ l.length ≤ maxLen) (fun i hi => open_inin (hV i (by omega)).2)
    have g1 : ∀ i, i < len → ((List.range len).map V).getD i undef = V i := fun i hi => by rw [List.getD_eq_getElem?_getD, List.getElem?_map, List.getElem?_range hi]; rfl
    have g2 : ∀ i, i < len → ((List.range len).map L).getD i [] = L i := fun i hi => by rw [List.getD_eq_getElem?_getD, List.getElem?_map, List.getElem?_range hi]; rfl
    refine ⟨(List.range len).map L, (List.range len).map V, .inr ⟨a, m, by simp, hlt, by simpa using hl, hm, ?_⟩, by simp, fun i hi => ?_, fun i hi => ?_, fun i hi => ?_⟩
    · intro i u hi
      rw [List.getElem?_map] at hi
      rcases Nat.lt_or_ge i len with h1 | h1
      · rw [List.getElem?_range h1] at hi
        injection hi with hi
        rw [← hi]
        exact (hV i (by omega)).1
      · rw [List.getElem?_eq_none (by simpa using h1)] at hi; cases hi
    all_goals
      have hi' : i < len := by simpa using hi
      rw [g2 i hi']
    · rw [g1 i hi']; exact (hL i hi').1
    · exact (hL i hi').2.1
    · exact (hL i hi').2.2
set_option maxRecDepth 100000 in
theorem ints_lifted (os : Os) (started : os.Started) (H : Type) (enc : TypeId × Value → H) :
    ReturnsInHanded {} Tryz.checked os 7 .any (Rows.fnExpoIntsSpec.pre6 enc Tryz.prog Tryz.f7 Rows.fnExpoIntsRow.domain false) (Rows.fnExpoIntsSpec.post enc Tryz.prog Tryz.f7 false true false false) := by
  refine returnsInHanded_of_change (C := Tryz.checked) ownNone started (by kernel_rfl) Tryz.func7
    (ChangeSpec.witness6 (enc := enc) (C := Tryz.checked) false ⟨#[], #[.bool false, .int .i32 0, .int .i32 0, .slice none 0 0], []⟩ 8 (by kernel_rfl) (by kernel_rfl) (by kernel_rfl) (by kernel_rfl)) ?_
  intro W base args ds gs before hval0 hW _ _
  have hval : ∀ (j : Nat) t v, Tryz.f7.params[j]? = some t → args[j]? = some v → Value.okWide Tryz.prog W .any base t v := hval0
  have hW' := hW
  obtain ⟨p, q, hA0, hV, rfl, _, _⟩ := hW
  have hA : DataW.TrodAll enc Tryz.prog W 0 (fun _ => true) true Tryz.f7.params.toList args.toList ds p := hA0
  rw [Tryz.params7] at hA hval
  obtain ⟨v0, vs0, d0, ds0, p0, q0, hargs, rfl, rfl, h0, r0⟩ := trodAll_cons hA
  obtain ⟨v1, vs1, d1, ds1, p1, q1, rfl, rfl, rfl, h1, r1⟩ := trodAll_cons r0
  obtain ⟨v2, vs2, d2, ds2, p2, q2, rfl, rfl, rfl, h2, r2⟩ := trodAll_cons r1
  obtain ⟨v3, vs3, d3, ds3, p3, q3, rfl, rfl, rfl, h3, r3⟩ := trodAll_cons r2
  obtain ⟨rfl, rfl, rfl⟩ := trodAll_nil r3
  obtain rfl : args = #[v0, v1, v2, v3] := by cases args; simp_all
  obtain ⟨rfl, rfl⟩ := trodVars_none hV
  obtain ⟨delta, rfl, rfl, rfl⟩ := open_bool Tryz.underlying4 (hval 0 4 v0 rfl rfl) h0
  obtain ⟨size, rfl, rfl, rfl, w1⟩ := open_int Tryz.underlying21 (hval 1 21 v1 rfl rfl) h1
  obtain ⟨scale, rfl, rfl, rfl, w2⟩ := open_int Tryz.underlying21 (hval 2 21 v2 rfl rfl) h2
  clear hA0 hval0
  simp only [List.append_nil, List.nil_append] at hW'
  have hlt : ∀ x ∈ p3, x.block < W.heap.size := fun x hx => hW'.lt x (by simp [hx])
  obtain ⟨rs, rv, hl, hlen, hin, hb, hcap⟩ := open_iounds (hval 3 39 v3 rfl rfl) h3
  refine (I.expo7 delta size scale rs rv v3 W hl hlen hin hb hcap).mono fun e W' ⟨he, hk⟩ => ?_
  subst he
  have hbel : Below W.heap.size W W' := hk.below (Nat.le_refl _) (by simp)
  have h3' : DataW.Trod enc Tryz.prog W' 0 (fun b => decide (b < W.heap.size)) true 39 v3 d3 p3 :=
    Below.trod laidOut (by kernel_rfl) (of_decide_eq_true (by kernel_rfl)) h3 hbel hlt
  exact ⟨_, rfl, ⟨_, _, _, [], _, [], hW', trodAll_mk1 (shut_bool Tryz.underlying4 true), trodAll_cons_mk (shut_bool Tryz.underlying4 delta) (trodAll_cons_mk (shut_int Tryz.underlying21 w1) (trodAll_cons_mk (shut_int Tryz.underlying21 w2) (trodAll_mk1 h3'))), rfl, hbel.frame _, fun h => by cases h⟩⟩
theorem ints_holds : Rows.FnExpoIntsSaid :=
  OpenClaim.holds_of_wide 7 Tryz.f7 rfl rfl rfl rfl rfl rfl rfl ⟨rfl, rfl, rfl, rfl, rfl⟩ rfl rfl rfl rfl rfl (by kernel_rfl) Tryz.func7 (by kernel_rfl)
    (of_decide_eq_true (by kernel_rfl)) (by unfold Func.isWrapper; rw [if_neg (by decide +kernel)]; exact ⟨rfl, rfl⟩)
    (fun os started H enc _ => ints_lifted os started H enc)
#print axioms ints_holds
end Go.Proofs.YtlpddogcnpokfaaGreat
