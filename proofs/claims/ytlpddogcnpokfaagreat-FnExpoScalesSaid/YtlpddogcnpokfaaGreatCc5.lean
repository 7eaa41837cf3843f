/- FnExpoScales: for every input true, and the input reads as it did. -/
import Derived.Test.YtlpddogcnpokfaaGreatCl
import Derived.Test.YtlpddogcnpokfaaGreatL5
namespace Go.Proofs.YtlpddogcnpokfaaGreat
open Go.ChangeShapes Go.WideShapes Go.ChangeAt Go.RowKit Go.Deep
set_option maxRecDepth 100000 in
theorem scales_lifted (os : Os) (started : os.Started) (H : Type) (enc : TypeId × Value → H) :
    ReturnsInHanded {} Tryz.checked os 5 .any (Rows.fnExpoScalesSpec.pre6 enc Tryz.prog Tryz.f5 Rows.fnExpoScalesRow.domain false) (Rows.fnExpoScalesSpec.post enc Tryz.prog Tryz.f5 false true false false) := by
  refine returnsInHanded_of_change (C := Tryz.checked) ownNone started (by kernel_rfl) Tryz.func5
    (ChangeSpec.witness6 (enc := enc) (C := Tryz.checked) false ⟨#[], #[.int .i32 0, .int .i32 0, .slice none 0 0, .int .u8 0], []⟩ 8 (by kernel_rfl) (by kernel_rfl) (by kernel_rfl) (by kernel_rfl)) ?_
  intro W base args ds gs before hval0 hW _ _
  have hval : ∀ (j : Nat) t v, Tryz.f5.params[j]? = some t → args[j]? = some v → Value.okWide Tryz.prog W .any base t v := hval0
  have hW' := hW
  obtain ⟨p, q, hA0, hV, rfl, _, _⟩ := hW
  have hA : DataW.TrodAll enc Tryz.prog W 0 (fun _ => true) true Tryz.f5.params.toList args.toList ds p := hA0
  rw [Tryz.params5] at hA hval
  obtain ⟨v0, vs0, d0, ds0, p0, q0, hargs, rfl, rfl, h0, r0⟩ := trodAll_cons hA
  obtain ⟨v1, vs1, d1, ds1, p1, q1, rfl, rfl, rfl, h1, r1⟩ := trodAll_cons r0
  obtain ⟨v2, vs2, d2, ds2, p2, q2, rfl, rfl, rfl, h2, r2⟩ := trodAll_cons r1
  obtain ⟨v3, vs3, d3, ds3, p3, q3, rfl, rfl, rfl, h3, r3⟩ := trodAll_cons r2
  obtain ⟨rfl, rfl, rfl⟩ := trodAll_nil r3
  obtain rfl : args = #[v0, v1, v2, v3] := by cases args; simp_all
  obtain ⟨rfl, rfl⟩ := trodVars_none hV
  obtain ⟨size, rfl, rfl, rfl, w0⟩ := open_int Tryz.underlying21 (hval 0 21 v0 rfl rfl) h0
  obtain ⟨scale, rfl, rfl, rfl, w1⟩ := open_int Tryz.underlying21 (hval 1 21 v1 rfl rfl) h1
  obtain ⟨turn, rfl, rfl, rfl, w3⟩ := open_int Tryz.underlying5 (hval 3 5 v3 rfl rfl) h3
  have ht : 0 ≤ turn ∧ turn ≤ 255 := by simpa [Lit.wf, IntKind.min, IntKind.max, IntKind.signed, IntKind.bits] using w3
  clear hA0 hval0
  simp only [List.append_nil, List.nil_append] at hW'
  have hlt : ∀ x ∈ p2, x.block < W.heap.size := fun x hx => hW'.lt x (by simp [hx])
  obtain ⟨l, hl, hb⟩ := open_fl (hval 2 22 v2 rfl rfl) h2
  refine (scales5 size scale turn l v2 W hl hb ht).mono fun e W' ⟨he, hk⟩ => ?_
  subst he
  have hbel : Below W.heap.size W W' := hk.below (Nat.le_refl _) (by simp)
  have h2' : DataW.Trod enc Tryz.prog W' 0 (fun b => decide (b < W.heap.size)) true 22 v2 d2 p2 :=
    Below.trod laidOut (by kernel_rfl) (of_decide_eq_true (by kernel_rfl)) h2 hbel hlt
  exact ⟨_, rfl, ⟨_, _, _, [], _, [], hW', trodAll_mk1 (shut_bool Tryz.underlying4 true), trodAll_cons_mk (shut_int Tryz.underlying21 w0) (trodAll_cons_mk (shut_int Tryz.underlying21 w1) (trodAll_cons_mk h2' (trodAll_mk1 (shut_int Tryz.underlying5 w3)))), rfl, hbel.frame _, fun h => by cases h⟩⟩
theorem scales_holds : Rows.FnExpoScalesSaid :=
  OpenClaim.holds_of_wide 5 Tryz.f5 rfl rfl rfl rfl rfl rfl rfl ⟨rfl, rfl, rfl, rfl, rfl⟩ rfl rfl rfl rfl rfl (by kernel_rfl) Tryz.func5 (by kernel_rfl)
    (of_decide_eq_true (by kernel_rfl)) (by unfold Func.isWrapper; rw [if_neg (by decide +kernel)]; exact ⟨rfl, rfl⟩)
    (fun os started H enc _ => scales_lifted os started H enc)
#print axioms scales_holds
end Go.Proofs.YtlpddogcnpokfaaGreat
