/- FnExpoDoubled: for every input true, and the input reads as it did. -/
import Derived.Test.YtlpddogcnpokfaaGreatCl
import Derived.Test.YtlpddogcnpokfaaGreatL4
namespace Go.Proofs.YtlpddogcnpokfaaGreat
open Go.ChangeShapes Go.WideShapes Go.ChangeAt Go.RowKit Go.Deep
set_option maxRecDepth 100000 in
theorem doubled_lifted (os : Os) (started : os.Started) (H : Type) (enc : TypeId × Value → H) :
    ReturnsInHanded {} Tryz.checked os 4 .any (Rows.fnExpoDoubledSpec.pre6 enc Tryz.prog Tryz.f4 Rows.fnExpoDoubledRow.domain false) (Rows.fnExpoDoubledSpec.post enc Tryz.prog Tryz.f4 false true false false) := by
  refine returnsInHanded_of_change (C := Tryz.checked) ownNone started (by kernel_rfl) Tryz.func4
    (ChangeSpec.witness6 (enc := enc) (C := Tryz.checked) false ⟨#[], #[.int .i32 0, .int .i32 0, .slice none 0 0], []⟩ 8 (by kernel_rfl) (by kernel_rfl) (by kernel_rfl) (by kernel_rfl)) ?_
  intro W base args ds gs before hval0 hW _ _
  have hval : ∀ (j : Nat) t v, Tryz.f4.params[j]? = some t → args[j]? = some v → Value.okWide Tryz.prog W .any base t v := hval0
  have hW' := hW
  obtain ⟨p, q, hA0, hV, rfl, _, _⟩ := hW
  have hA : DataW.TrodAll enc Tryz.prog W 0 (fun _ => true) true Tryz.f4.params.toList args.toList ds p := hA0
  rw [Tryz.params4] at hA hval
  obtain ⟨v0, vs0, d0, ds0, p0, q0, hargs, rfl, rfl, h0, r0⟩ := trodAll_cons hA
  obtain ⟨v1, vs1, d1, ds1, p1, q1, rfl, rfl, rfl, h1, r1⟩ := trodAll_cons r0
  obtain ⟨v2, vs2, d2, ds2, p2, q2, rfl, rfl, rfl, h2, r2⟩ := trodAll_cons r1
  obtain ⟨rfl, rfl, rfl⟩ := trodAll_nil r2
  obtain rfl : args = #[v0, v1, v2] := by cases args; simp_all
  obtain ⟨rfl, rfl⟩ := trodVars_none hV
  obtain ⟨size, rfl, rfl, rfl, w0⟩ := open_int Tryz.underlying21 (hval 0 21 v0 rfl rfl) h0
  obtain ⟨scale, rfl, rfl, rfl, w1⟩ := open_int Tryz.underlying21 (hval 1 21 v1 rfl rfl) h1
  clear hA0 hval0
  simp only [List.append_nil, List.nil_append] at hW'
  have hlt : ∀ x ∈ p2, x.block < W.heap.size := fun x hx => hW'.lt x (by simp [hx])
  obtain ⟨l, hl, hb⟩ := open_fl (hval 2 22 v2 rfl rfl) h2
  refine (doubled4 size scale l v2 W hl hb).mono fun e W' ⟨he, hk⟩ => ?_
  subst he
  have hbel : Below W.heap.size W W' := hk.below (Nat.le_refl _) (by simp)
  have h2' : DataW.Trod enc Tryz.prog W' 0 (fun b => decide (b < W.heap.size)) true 22 v2 d2 p2 :=
    Below.trod laidOut (by kernel_rfl) (of_decide_eq_true (by kernel_rfl)) h2 hbel hlt
  exact ⟨_, rfl, ⟨_, _, _, [], _, [], hW', trodAll_mk1 (shut_bool Tryz.underlying4 true), trodAll_cons_mk (shut_int Tryz.underlying21 w0) (trodAll_cons_mk (shut_int Tryz.underlying21 w1) (trodAll_mk1 h2')), rfl, hbel.frame _, fun h => by cases h⟩⟩
theorem doubled_holds : Rows.FnExpoDoubledSaid :=
  OpenClaim.holds_of_wide 4 Tryz.f4 rfl rfl rfl rfl rfl rfl rfl ⟨rfl, rfl, rfl, rfl, rfl⟩ rfl rfl rfl rfl rfl (by kernel_rfl) Tryz.func4 (by kernel_rfl)
    (of_decide_eq_true (by kernel_rfl)) (by unfold Func.isWrapper; rw [if_neg (by decide +kernel)]; exact ⟨rfl, rfl⟩)
    (fun os started H enc _ => doubled_lifted os started H enc)
#print axioms doubled_holds
end Go.Proofs.YtlpddogcnpokfaaGreat
