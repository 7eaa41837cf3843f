/- The same numbers have the same buckets: order, signs. -/
import Derived.Test.YtlpddogcnpokfaaGreatSp7
namespace Go.Proofs.YtlpddogcnpokfaaGreat

/-- the same numbers have the same buckets -/
theorem BkOk.uniq {top : Nat} {size : Int} {b0 : Nat} {P N P' N' : List Int} {z z' b b' : Nat} {s s' : Bk} (h : BkOk top size b0 P N z b s) (k : BkOk top size b0 P' N' z' b' s') (hP : P'.Perm P) (hN : N'.Perm N) :
    b = b' ∧ s.sc = s'.sc ∧ s.ps = s'.ps ∧ s.pl = s'.pl ∧ s.ns = s'.ns ∧ s.nl = s'.nl := by
  have k' := k.perm hP hN
  have e : b = b' := by
    have a1 := h.below k'.le k'.fp k'.fn
    have a2 := k'.below h.le h.fp h.fn
    omega
  subst e
  obtain ⟨e1, e2⟩ := h.sp.one k'.sp
  obtain ⟨e3, e4⟩ := h.sn.one k'.sn
  exact ⟨rfl, h.sc.trans k.sc.symm, e1, e2, e3, e4⟩
theorem BkOk.swap {top : Nat} {size : Int} {b0 : Nat} {P N : List Int} {z b : Nat} {s : Bk} (h : BkOk top size b0 P N z b s) : BkOk top size b0 N P z b ⟨s.sc, s.ns, s.nl, s.ps, s.pl, s.zc⟩ :=
  ⟨h.sc, h.le, h.sn, h.sp, h.zc, h.fn, h.fp, fun c h1 h2 h3 => h.least c h1 h2 ⟨h3.2, h3.1⟩⟩

theorem pIs_permL {top : Nat} {l k : List Nat} (h : l.Perm k) : (pIs top l).Perm (pIs top k) := by
  unfold pIs; exact (h.filter _).map _
theorem nIs_permL {top : Nat} {l k : List Nat} (h : l.Perm k) : (nIs top l).Perm (nIs top k) := by
  unfold nIs; exact (h.filter _).map _
theorem zIs_permL {l k : List Nat} (h : l.Perm k) : zIs l = zIs k := by
  unfold zIs; exact h.countP_eq _
theorem Fine.permL {top : Nat} {size : Int} {b0 B : Nat} {l k : List Nat} (h : Fine top size b0 B l) (hp : k.Perm l) : Fine top size b0 B k :=
  ⟨fun v hv => h.lt v (hp.mem_iff.1 hv), fun v hv => h.fin v (hp.mem_iff.1 hv), fun v hv => h.near v (hp.mem_iff.1 hv), h.hB, h.hB2,
    h.f1.perm (pIs_permL hp.symm), h.f2.perm (nIs_permL hp.symm)⟩
theorem Fine.permL_iff {top : Nat} {size : Int} {b0 B : Nat} {l k : List Nat} (hp : k.Perm l) : Fine top size b0 B k ↔ Fine top size b0 B l := ⟨fun h => h.permL hp.symm, fun h => h.permL hp⟩

/-- the other sign -/
def negW (v : Nat) : Nat := if v < 9223372036854775808 then v + 9223372036854775808 else v - 9223372036854775808
theorem absW_negW {v : Nat} (hv : v < 18446744073709551616) : absW (negW v) = absW v := by
  unfold negW absW; split <;> omega

/-- counts at the first and the last place, and how many places -/
theorem Sd.ends {b : Nat} {L : List Int} {st : Int} {l : List Nat} (h : Sd b L st l) (hl : 0 < l.length) : l.getD 0 0 ≠ 0 ∧ l.getD (l.length - 1) 0 ≠ 0 := by
  have hL : L ≠ [] := fun e => by rw [(h.nil e).2] at hl; simp at hl
  have h1 := h.low hL
  have h2 := h.high hL
  have c1 := h.cnt 0 hl
  have c2 := h.cnt (l.length - 1) (by omega)
  rw [show st + ((0 : Nat) : Int) = st from by omega] at c1
  rw [show st + ((l.length - 1 : Nat) : Int) = st + l.length - 1 from by omega] at c2
  omega
end Go.Proofs.YtlpddogcnpokfaaGreat
