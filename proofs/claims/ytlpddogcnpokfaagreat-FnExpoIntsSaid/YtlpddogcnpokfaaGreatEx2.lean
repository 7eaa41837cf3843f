/- What stands while numbers are measured, and what is handed out. -/
import Derived.Test.YtlpddogcnpokfaaGreatEx1
import Derived.Deep.DeepCutAuto
import Derived.Laws.EntriesVeiled
namespace Go.Proofs.YtlpddogcnpokfaaGreat
open Go.RowKit
/-- what 'expo' hands out -/
def ExPost (w : World) (top : Nat) (ms S : Int) (delta : Bool) (rs : List (List Nat)) (e : Ending) (w' : World) : Prop := ∃ V es, e = .returned V ∧ ResAt w' [] top ms S (accL delta rs) V rs.length es ∧ Kept [] w w'
theorem mk139 (w : World) : (Instr.makeInterface 139 (.agg #[])).run Tryz.prog w = .ok (.iface 139 (.agg #[])) w := by kernel_rfl
theorem bg44 (w : World) : Calls Tryz.prog 44 #[] w fun e w' => e = .returned (.iface 139 (.agg #[])) ∧ w = w' := by
  have h := mk139
  go_enter Tryz.func44, Tryz.ntmps44
  go_wp2_with fail
  go_ret
  exact ⟨rfl, rfl⟩
theorem ExInv.lt2 {w wr : World} {p h b top : Nat} {ms S : Int} {l F : List Nat} (I : ExInv w p h b top ms S l F wr) : ∀ i, i ∈ h :: p :: b :: F → i < wr.heap.size := by
  intro i hi
  rcases List.mem_cons.1 hi with rfl | hi
  · exact heap_lt I.hc
  · rcases List.mem_cons.1 hi with rfl | hi
    · have : i < wr.heap.size := cell_lt I.pc
      exact this
    · exact I.lt i hi
theorem ExInv.own {w wr w' : World} {p h b top : Nat} {ms S : Int} {l F : List Nat} (I : ExInv w p h b top ms S l F wr) {o : Value} {n : Nat} {xs : List Value} (hg : wr.grownBy w' o.ownBlock) (ho : OwnAv wr (h :: p :: b :: F) 26 11 o n xs) (hn : ∀ z, o.ownBlock = some z → w.heap.size ≤ z) :
    ExInv w p h b top ms S l F w' := by
  have hk := grownBy_kept hg
  have hz : ∀ i, i ∈ o.ownBlock.toList → i ∉ h :: p :: b :: F ∧ w.heap.size ≤ i := by
    intro i hi
    have e : o.ownBlock = some i := by simpa using hi
    exact ⟨ho.2 i e, hn i e⟩
  have hpl : p < wr.heap.size := cell_lt I.pc
  refine ⟨I.kept.trans2 hk fun i hi => .inr (hz i hi).2, (hk.cell hpl fun hm => (hz p hm).1 (by simp)).trans I.pc, hk.obj I.hc fun hm => (hz h hm).1 (by simp), I.map.kept hk (fun hm => (hz b hm).1 (by simp)) (fun i hi hm => (hz i hm).1 (by simp [hi])), I.new, I.hp, I.hh, I.bF⟩
theorem ExInv.coll {w wr w' : World} {p h b top q : Nat} {ms S : Int} {l l' F F' : List Nat} (I : ExInv w p h b top ms S l F wr) (hm : MapAt w' b top ms S l' F') (hk : Kept [q, b] wr w') (hq : wr.heap.size ≤ q) (hF : ∀ i, i ∈ F' → i ∈ F) (hbF : b ∉ F') : ExInv w p h b top ms S l' F' w' := by
  have hpl : p < wr.heap.size := cell_lt I.pc
  have hhl := heap_lt I.hc
  have hs := I.kept.size
  have hpb : p ≠ b := fun e => I.hp (e ▸ List.mem_cons_self)
  have hhb : h ≠ b := fun e => I.hh (e ▸ List.mem_cons_self)
  have hbn := I.new b List.mem_cons_self
  refine ⟨I.kept.trans2 hk fun i hi => ?_, (hk.cell hpl ?_).trans I.pc, hk.obj I.hc ?_, hm, ?_, ?_, ?_, hbF⟩
  · right
    simp only [List.mem_cons, List.not_mem_nil, or_false] at hi
    rcases hi with rfl | rfl <;> omega
  · simp only [List.mem_cons, List.not_mem_nil, or_false]; omega
  · simp only [List.mem_cons, List.not_mem_nil, or_false]; omega
  · intro i hi
    rcases List.mem_cons.1 hi with rfl | hi
    · exact hbn
    · exact I.new i (List.mem_cons_of_mem _ (hF i hi))
  · intro hi
    rcases List.mem_cons.1 hi with e | hi
    · exact hpb e
    · exact I.hp (List.mem_cons_of_mem _ (hF p hi))
  · intro hi
    rcases List.mem_cons.1 hi with e | hi
    · exact hhb e
    · exact I.hh (List.mem_cons_of_mem _ (hF h hi))
theorem as125_some (v : Value) (n : Int) (w : World) : (Instr.typeAssert (.iface 125 (.agg #[v, .int .u8 n])) 102 125 true).run Tryz.prog w = .ok (.tuple #[.agg #[v, .int .u8 n], .bool true]) w := by kernel_rfl
end Go.Proofs.YtlpddogcnpokfaaGreat
