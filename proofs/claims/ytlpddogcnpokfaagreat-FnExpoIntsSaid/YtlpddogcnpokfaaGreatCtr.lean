/- sum counters -/
import Derived.Test.YtlpddogcnpokfaaGreatMmx
namespace Go.Proofs.YtlpddogcnpokfaaGreat
open Go.RowKit

/-- one more draw, or none -/
def Dr1 (w w' : World) : Prop := w' = w ∨ w' = w.drew
theorem Dr1.dr {w w' : World} (h : Dr1 w w') : Dr w w' := by
  rcases h with rfl | rfl
  · exact ⟨0, rfl⟩
  · exact ⟨1, rfl⟩
theorem Dr1.heap {w w' : World} (h : Dr1 w w') : w'.heap = w.heap := by rcases h with rfl | rfl <;> rfl
theorem Dr1.cell {w w' : World} (h : Dr1 w w') (a : Addr) : w'.cell? a = w.cell? a := by rcases h with rfl | rfl <;> rfl
theorem Dr1.frozen {w w' : World} (h : Dr1 w w') (a : Addr) : w'.frozen? a = w.frozen? a := by rcases h with rfl | rfl <;> rfl

theorem wrap64_range (n : Int) : -9223372036854775808 ≤ IntKind.i64.wrap n ∧ IntKind.i64.wrap n ≤ 9223372036854775807 := by
  rw [IntKind.wrap_i64]; omega

theorem conv_any (n : Nat) (w : World) : ∃ k w', (convert 32 2 (.float .f64 n)).run Tryz.prog w = .ok (.int .i64 k) w' ∧ Dr1 w w' ∧ (∀ k0, floatToIntVal .f64 n .i64 = some k0 → k = k0) ∧ -9223372036854775808 ≤ k ∧ k ≤ 9223372036854775807 := by
  cases h : floatToIntVal .f64 n .i64 with
  | some k0 =>
    refine ⟨k0, w, run_convert_float_int w 32 2 .f64 .i64 n k0 (by kernel_rfl) Tryz.underlying2 h, .inl rfl, fun k hk => by cases hk; rfl, ?_⟩
    have := floatToIntVal_wf h
    simp [Lit.wf, IntKind.min, IntKind.max, IntKind.signed, IntKind.bits] at this
    omega
  | none =>
    have hr : ∃ m, (convert 32 2 (.float .f64 n)).run Tryz.prog w = .ok (.int .i64 (IntKind.i64.wrap m)) w.drew := by
      unfold floatToIntVal at h
      split at h
      · rename_i m he
        split at h
        · cases h
        · rename_i hb
          refine ⟨((Question.floatToInt .f64 n .i64).cut (w.tape w.drawn (.floatToInt .f64 n .i64)) : Nat), ?_⟩
          simp [convert, run_underlying Tryz.underlying32, run_underlying Tryz.underlying2, Conv.floatToInt, he, Question.forced]
          intro h1 h2; exact absurd ⟨h1, h2⟩ hb
      · rename_i he
        refine ⟨((Question.floatToInt .f64 n .i64).cut (w.tape w.drawn (.floatToInt .f64 n .i64)) : Nat), ?_⟩
        simp [convert, run_underlying Tryz.underlying32, run_underlying Tryz.underlying2, Conv.floatToInt, he, Question.forced]
    obtain ⟨m, hm⟩ := hr
    exact ⟨_, _, hm, .inr rfl, (fun k hk => by cases hk), wrap64_range m⟩

theorem add_any (x y : Nat) (w : World) : ∃ r w', (binOp .add 32 (.float .f64 x) (.float .f64 y)).run Tryz.prog w = .ok (.float .f64 r) w' ∧ Dr1 w w' ∧ (∀ r0, floatBits .add .f64 x y = some r0 → r = r0) ∧ r < 18446744073709551616 := by
  cases h : floatBits .add .f64 x y with
  | some r0 =>
    refine ⟨r0, w, run_float_arith w .add 32 .f64 x y r0 h, .inl rfl, fun k hk => by cases hk; rfl, ?_⟩
    have := floatBits_wf h
    simpa [Lit.wf] using this
  | none =>
    have hr : (binOp .add 32 (.float .f64 x) (.float .f64 y)).run Tryz.prog w = .ok (.float .f64 ((Question.nanBits .f64 x y).cut (w.tape w.drawn (.nanBits .f64 x y)))) w.drew := by
      have h' : FloatKind.f64.format.add x y = none := h
      simp [binOp, Op.floatArith, h', Question.forced]
    refine ⟨_, _, hr, .inr rfl, (fun k hk => by cases hk), ?_⟩
    simp only [Question.cut]
    omega

theorem addI138 (a : Addr) (x n : Int) (w : World) (hc : w.cell? a = some (.int .i64 x)) (hf : w.frozen? a = false) :
    Calls Tryz.prog 138 #[.pointer (some a), .int .i64 n] w fun e w' => e = .returned (.int .i64 (wrap64 (x + n))) ∧ w.setCell a (.int .i64 (wrap64 (x + n))) = w' := by
  go_enter Tryz.func138, Tryz.ntmps138
  go_wp2
  go_ret
  exact ⟨rfl, rfl⟩
theorem cas139 (a : Addr) (n m : Int) (w : World) (hc : w.cell? a = some (.int .u64 n)) (hf : w.frozen? a = false) :
    Calls Tryz.prog 139 #[.pointer (some a), .int .u64 n, .int .u64 m] w fun e w' => e = .returned (.bool true) ∧ w.setCell a (.int .u64 m) = w' := by
  go_enter Tryz.func139, Tryz.ntmps139
  go_wp2
  go_ret
  exact ⟨rfl, rfl⟩
theorem setCell_id (w : World) (a : Addr) (v : Value) (h : w.cell? a = some v) : w.setCell a v = w := by
  unfold World.setCell
  have : w.heap.modify a.block (fun | .cells c elem frozen => .cells (if a.spot.isSome then c else c.setIfInBounds a.off v) elem frozen | o => o) = w.heap := by
    apply Array.ext_getElem?
    intro k
    simp only [Array.getElem?_modify]
    by_cases hk : a.block = k
    · simp only [hk, if_true]
      unfold World.cell? at h
      rw [hk] at h
      cases ho : w.heap[k]? with
      | none => rfl
      | some ob =>
        rw [ho] at h
        cases ob with
        | cells c e f =>
          simp only at h
          split at h
          · cases h
          · rename_i hs
            simp only [Option.map_some, hs]
            congr 2
            simp only [Bool.false_eq_true, if_false]
            apply Array.ext_getElem?
            intro j
            rw [Array.getElem?_setIfInBounds]
            split
            · rename_i e; subst e
              split
              · exact h.symm
              · rename_i hn; rw [Array.getElem?_eq_none (by omega)]
            · rfl
        | _ => rfl
    · simp [hk]
  exact congrArg (fun h => ({w with heap := h} : World)) this
theorem setCell_comm2 (w : World) (b o : Nat) (v x : Value) : (w.setCell ⟨b, o, none⟩ v).setCell ⟨b, o + 1, none⟩ x = (w.setCell ⟨b, o + 1, none⟩ x).setCell ⟨b, o, none⟩ v := by
  unfold World.setCell
  congr 1
  apply Array.ext_getElem?
  intro k
  simp only [Array.getElem?_modify]
  by_cases h : b = k
  · simp only [h, if_true, Option.map_map]
    congr 1
    funext ob
    cases ob with
    | cells c e f =>
      simp only [Function.comp, Option.isSome_none, Bool.false_eq_true, if_false]
      congr 1
      apply Array.ext_getElem?
      intro j
      simp only [Array.getElem?_setIfInBounds, Array.size_setIfInBounds]
      by_cases h1 : o = j
      · subst h1; simp
      · by_cases h2 : o + 1 = j
        · subst h2; simp
        · simp [h1, h2]
    | _ => rfl
  · simp [h]

/-- what a measurement makes of the two parts of a sum -/
def SumStep (v fb : Nat) (ni : Int) (fb' : Nat) (ni' : Int) : Prop :=
  ∃ k, (∀ k0, floatToIntVal .f64 v .i64 = some k0 → k = k0) ∧ -9223372036854775808 ≤ k ∧ k ≤ 9223372036854775807 ∧
    (((FloatKind.f64.format.order (floatOfInt .f64 k) v == some .eq) = true ∧ fb' = fb ∧ ni' = wrap64 (ni + k)) ∨
      ((FloatKind.f64.format.order (floatOfInt .f64 k) v == some .eq) = false ∧ ni' = ni ∧ (∀ r, floatBits .add .f64 fb v = some r → fb' = r)))

set_option maxHeartbeats 400000 in
theorem add128 (b o v fb : Nat) (ni : Int) (w : World) (h0 : w.cell? ⟨b, o, none⟩ = some (U fb)) (h1 : w.cell? ⟨b, o + 1, none⟩ = some (.int .i64 ni))
    (f0 : w.frozen? ⟨b, o, none⟩ = false) (f1 : w.frozen? ⟨b, o + 1, none⟩ = false) (hfb : fb < 18446744073709551616) :
    Calls Tryz.prog 128 #[.pointer (some ⟨b, o, none⟩), .float .f64 v] w fun e w' => e = .returned (.tuple #[]) ∧
      ∃ fb' ni', fb' < 18446744073709551616 ∧ SumStep v fb ni fb' ni' ∧ Dr ((w.setCell ⟨b, o, none⟩ (U fb')).setCell ⟨b, o + 1, none⟩ (.int .i64 ni')) w' := by
  obtain ⟨k, w1, hr, hd, hk, hk1, hk2⟩ := conv_any v w
  have c0 : w1.cell? ⟨b, o, none⟩ = some (.int .u64 (fb : Int)) := by rw [hd.cell]; exact h0
  have c1 : w1.cell? ⟨b, o + 1, none⟩ = some (.int .i64 ni) := by rw [hd.cell]; exact h1
  have g0 : w1.frozen? ⟨b, o, none⟩ = false := by rw [hd.frozen]; exact f0
  have g1 : w1.frozen? ⟨b, o + 1, none⟩ = false := by rw [hd.frozen]; exact f1
  by_cases he : (FloatKind.f64.format.order (floatOfInt .f64 k) v == some .eq) = true
  · have HST := Lib.hid (show SumStep v fb ni fb (wrap64 (ni + k)) from ⟨k, hk, hk1, hk2, .inl ⟨he, rfl, rfl⟩⟩)
    have HD := Lib.hid hd
    have H0 := Lib.hid h0
    have HFB := Lib.hid hfb
    clear hk hd h0 h1 f0 f1 hfb
    go_enter Tryz.func128, Tryz.ntmps128
    go_wp2_with fail
    refine (addI138 _ _ _ _ c1 g1).mono ?_; rintro e w' ⟨rfl, rfl⟩
    go_wp2_with fail
    (try simp only [Exit.inBlock, Exit.then])
    refine bodyPost_ret (results_none rfl _ _ _) rfl ?_
    refine ⟨rfl, fb, wrap64 (ni + k), HFB.out, HST.out, ?_⟩
    rw [setCell_id w _ _ H0.out]
    rcases HD.out with h | h
    · rw [h]; exact ⟨0, rfl⟩
    · rw [h]; exact ⟨1, rfl⟩
  · have he' : (FloatKind.f64.format.order (floatOfInt .f64 k) v == some .eq) = false := by simpa using he
    obtain ⟨r, w2, hr2, hd2, hk3, hk4⟩ := add_any fb v w1
    have e0 : w2.cell? ⟨b, o, none⟩ = some (.int .u64 (fb : Int)) := by rw [hd2.cell]; exact c0
    have e1 : w2.frozen? ⟨b, o, none⟩ = false := by rw [hd2.frozen]; exact g0
    have HST := Lib.hid (show SumStep v fb ni r ni from ⟨k, hk, hk1, hk2, .inr ⟨he', rfl, hk3⟩⟩)
    have HD := Lib.hid hd
    have HD2 := Lib.hid hd2
    have H1 := Lib.hid h1
    have HK := Lib.hid hk4
    clear hk hd h0 h1 f0 f1 hfb he hd2 hk3 hk4
    go_enter Tryz.func128, Tryz.ntmps128
    go_wp2_with fail
    refine wp_loop_once ?_
    go_wp2_with fail
    refine (load80 _ _ _ c0).mono ?_; rintro e w' ⟨rfl, rfl⟩
    go_wp2_with fail
    refine (cas139 _ _ _ _ e0 e1).mono ?_; rintro e w' ⟨rfl, rfl⟩
    go_wp2_with fail
    (try simp only [Exit.inBlock, Exit.then])
    refine bodyPost_ret (results_none rfl _ _ _) rfl ?_
    refine ⟨rfl, r, ni, HK.out, HST.out, ?_⟩
    rw [setCell_comm2, setCell_id w _ _ H1.out]
    rcases HD.out with h | h <;> rcases HD2.out with h2 | h2
    · rw [h2, h]; exact ⟨0, rfl⟩
    · rw [h2, h]; exact ⟨1, rfl⟩
    · rw [h2, h]; exact ⟨1, rfl⟩
    · rw [h2, h]; exact ⟨2, rfl⟩
end Go.Proofs.YtlpddogcnpokfaaGreat
