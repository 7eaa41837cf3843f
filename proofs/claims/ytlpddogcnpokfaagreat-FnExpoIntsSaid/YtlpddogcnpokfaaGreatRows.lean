/-
  No cell of these rows narrows 'for every input' (looked for: loops, veiled, ifaces, maps, wideKeys, modest, calm, conditions, laid).
  DERIVED. THE GIVEN ROWS OF THIS SEAT. 7 by the template 'for every input the law returns true; each argument reads behind the call as it read before'; 0 by the template 'total and deterministic' (their statements: YtlpddogcnpokfaaGreatTotals.lean).
  GIVEN WITH THE SEED: the statements are not yours to turn. If you find one false, say at which input.
  Laid BY PROGRAM, IN A SANDBOX (cutbox-rows.mjs): the forced cells as the released guide's own fill.sh prints them over the translation 847d9863b95ff740… (all of the seat's roots in one cut). By AI agents, Wed Nov 11 2026. No macro, syntax, notation, axiom, sorry.
-/
import Derived.Test.YtlpddogcnpokfaaGreatChecked
import GoSem.Claim
import GoSem.ClaimJoined
import GoSem.ClaimMapViews
import Derived.JoinedTies
import Derived.KernelRfl
namespace Go.Proofs.YtlpddogcnpokfaaGreat
/- THE CELL 'sum', in the pinned program and in every row, IS THE sha256 OF THE DUMP (.gsa) THAT YtlpddogcnpokfaaGreatProg.lean LOADS. Nothing in Lean hashes anything: it is a label: what it is worth is what the hold of that sum in a sandbox is worth. -/
noncomputable def Tryz.pinned : Pinned := { name := "ytlpddogcnpokfaagreat", sum := "847d9863b95ff740140651a9990c93546a9684e3164d46d49ea862746774ced1", checked := Tryz.checked }
namespace Rows
def none {H : Type} : Left H := { results := [], args := [] }

/-- 'laws.FnExpoCounts': WHATEVER THE INPUT: true; the input reads as it did. -/
def fnExpoCountsSpec : ChangeSpec := { name := "fnExpoCounts", fn := fun _ => fun
  | [d1, d2, d3] => { results := [.lit (.bool true)], args := [d1, d2, d3] }
  | _ => none }
def fnExpoCountsRow : OpenClaim := { program := "ytlpddogcnpokfaagreat", sum := "847d9863b95ff740140651a9990c93546a9684e3164d46d49ea862746774ced1", func := "pub-tallier/laws.FnExpoCounts", spec := "fnExpoCounts", inPlace := ["math.Float64frombits", "math.Float64bits", "math.archLog"], unfollowed := true, recurses := true, named := ["encoding/binary.LittleEndian"], plainKeys := false, apart := false }
def FnExpoCountsSaid : Prop := fnExpoCountsRow.holds Tryz.pinned (OpenSpec.ofChange fnExpoCountsSpec)

/-- ITS FALSE NEIGHBOUR: 'it returns false'. Refute it at one input. -/
def fnExpoCountsWrong : ChangeSpec := { name := "fnExpoCounts", fn := fun _ => fun
  | [d1, d2, d3] => { results := [.lit (.bool false)], args := [d1, d2, d3] }
  | _ => none }
def FnExpoCountsWrongFalsely : Prop := fnExpoCountsRow.holds Tryz.pinned (OpenSpec.ofChange fnExpoCountsWrong)

/-- 'laws.FnExpoDoubled': WHATEVER THE INPUT: true; the input reads as it did. -/
def fnExpoDoubledSpec : ChangeSpec := { name := "fnExpoDoubled", fn := fun _ => fun
  | [d1, d2, d3] => { results := [.lit (.bool true)], args := [d1, d2, d3] }
  | _ => none }
def fnExpoDoubledRow : OpenClaim := { program := "ytlpddogcnpokfaagreat", sum := "847d9863b95ff740140651a9990c93546a9684e3164d46d49ea862746774ced1", func := "pub-tallier/laws.FnExpoDoubled", spec := "fnExpoDoubled", inPlace := ["math.Float64bits", "math.Float64frombits", "math.archLog"], unfollowed := true, recurses := true, named := ["encoding/binary.LittleEndian"], plainKeys := false, apart := false }
def FnExpoDoubledSaid : Prop := fnExpoDoubledRow.holds Tryz.pinned (OpenSpec.ofChange fnExpoDoubledSpec)

/-- ITS FALSE NEIGHBOUR: 'it returns false'. Refute it at one input. -/
def fnExpoDoubledWrong : ChangeSpec := { name := "fnExpoDoubled", fn := fun _ => fun
  | [d1, d2, d3] => { results := [.lit (.bool false)], args := [d1, d2, d3] }
  | _ => none }
def FnExpoDoubledWrongFalsely : Prop := fnExpoDoubledRow.holds Tryz.pinned (OpenSpec.ofChange fnExpoDoubledWrong)

/-- 'laws.FnExpoScales': WHATEVER THE INPUT: true; the input reads as it did. -/
def fnExpoScalesSpec : ChangeSpec := { name := "fnExpoScales", fn := fun _ => fun
  | [d1, d2, d3, d4] => { results := [.lit (.bool true)], args := [d1, d2, d3, d4] }
  | _ => none }
def fnExpoScalesRow : OpenClaim := { program := "ytlpddogcnpokfaagreat", sum := "847d9863b95ff740140651a9990c93546a9684e3164d46d49ea862746774ced1", func := "pub-tallier/laws.FnExpoScales", spec := "fnExpoScales", inPlace := ["math.Float64frombits", "math.Float64bits", "math.archLog"], unfollowed := true, recurses := true, named := ["encoding/binary.LittleEndian"], plainKeys := false, apart := false }
def FnExpoScalesSaid : Prop := fnExpoScalesRow.holds Tryz.pinned (OpenSpec.ofChange fnExpoScalesSpec)

/-- ITS FALSE NEIGHBOUR: 'it returns false'. Refute it at one input. -/
def fnExpoScalesWrong : ChangeSpec := { name := "fnExpoScales", fn := fun _ => fun
  | [d1, d2, d3, d4] => { results := [.lit (.bool false)], args := [d1, d2, d3, d4] }
  | _ => none }
def FnExpoScalesWrongFalsely : Prop := fnExpoScalesRow.holds Tryz.pinned (OpenSpec.ofChange fnExpoScalesWrong)

/-- 'laws.FnExpoSigns': WHATEVER THE INPUT: true; the input reads as it did. -/
def fnExpoSignsSpec : ChangeSpec := { name := "fnExpoSigns", fn := fun _ => fun
  | [d1, d2, d3] => { results := [.lit (.bool true)], args := [d1, d2, d3] }
  | _ => none }
def fnExpoSignsRow : OpenClaim := { program := "ytlpddogcnpokfaagreat", sum := "847d9863b95ff740140651a9990c93546a9684e3164d46d49ea862746774ced1", func := "pub-tallier/laws.FnExpoSigns", spec := "fnExpoSigns", inPlace := ["math.Float64frombits", "math.Float64bits", "math.archLog"], unfollowed := true, recurses := true, named := ["encoding/binary.LittleEndian"], plainKeys := false, apart := false }
def FnExpoSignsSaid : Prop := fnExpoSignsRow.holds Tryz.pinned (OpenSpec.ofChange fnExpoSignsSpec)

/-- ITS FALSE NEIGHBOUR: 'it returns false'. Refute it at one input. -/
def fnExpoSignsWrong : ChangeSpec := { name := "fnExpoSigns", fn := fun _ => fun
  | [d1, d2, d3] => { results := [.lit (.bool false)], args := [d1, d2, d3] }
  | _ => none }
def FnExpoSignsWrongFalsely : Prop := fnExpoSignsRow.holds Tryz.pinned (OpenSpec.ofChange fnExpoSignsWrong)

/-- 'laws.FnExpoInts': WHATEVER THE INPUT: true; the input reads as it did. -/
def fnExpoIntsSpec : ChangeSpec := { name := "fnExpoInts", fn := fun _ => fun
  | [d1, d2, d3, d4] => { results := [.lit (.bool true)], args := [d1, d2, d3, d4] }
  | _ => none }
def fnExpoIntsRow : OpenClaim := { program := "ytlpddogcnpokfaagreat", sum := "847d9863b95ff740140651a9990c93546a9684e3164d46d49ea862746774ced1", func := "pub-tallier/laws.FnExpoInts", spec := "fnExpoInts", inPlace := ["math.Float64bits", "math.Float64frombits", "math.archLog"], unfollowed := true, recurses := true, named := ["encoding/binary.LittleEndian"], plainKeys := false, apart := false }
def FnExpoIntsSaid : Prop := fnExpoIntsRow.holds Tryz.pinned (OpenSpec.ofChange fnExpoIntsSpec)

/-- ITS FALSE NEIGHBOUR: 'it returns false'. Refute it at one input. -/
def fnExpoIntsWrong : ChangeSpec := { name := "fnExpoInts", fn := fun _ => fun
  | [d1, d2, d3, d4] => { results := [.lit (.bool false)], args := [d1, d2, d3, d4] }
  | _ => none }
def FnExpoIntsWrongFalsely : Prop := fnExpoIntsRow.holds Tryz.pinned (OpenSpec.ofChange fnExpoIntsWrong)

/-- 'laws.FnExpoOrder': WHATEVER THE INPUT: true; the input reads as it did. -/
def fnExpoOrderSpec : ChangeSpec := { name := "fnExpoOrder", fn := fun _ => fun
  | [d1, d2, d3, d4] => { results := [.lit (.bool true)], args := [d1, d2, d3, d4] }
  | _ => none }
def fnExpoOrderRow : OpenClaim := { program := "ytlpddogcnpokfaagreat", sum := "847d9863b95ff740140651a9990c93546a9684e3164d46d49ea862746774ced1", func := "pub-tallier/laws.FnExpoOrder", spec := "fnExpoOrder", inPlace := ["math.Float64frombits", "math.Float64bits", "math.archLog"], unfollowed := true, recurses := true, named := ["encoding/binary.LittleEndian"], plainKeys := false, apart := false }
def FnExpoOrderSaid : Prop := fnExpoOrderRow.holds Tryz.pinned (OpenSpec.ofChange fnExpoOrderSpec)

/-- ITS FALSE NEIGHBOUR: 'it returns false'. Refute it at one input. -/
def fnExpoOrderWrong : ChangeSpec := { name := "fnExpoOrder", fn := fun _ => fun
  | [d1, d2, d3, d4] => { results := [.lit (.bool false)], args := [d1, d2, d3, d4] }
  | _ => none }
def FnExpoOrderWrongFalsely : Prop := fnExpoOrderRow.holds Tryz.pinned (OpenSpec.ofChange fnExpoOrderWrong)

/-- 'laws.FnExpo': WHATEVER THE INPUT: true; the input reads as it did. -/
def fnExpoSpec : ChangeSpec := { name := "fnExpo", fn := fun _ => fun
  | [d1, d2, d3, d4] => { results := [.lit (.bool true)], args := [d1, d2, d3, d4] }
  | _ => none }
def fnExpoRow : OpenClaim := { program := "ytlpddogcnpokfaagreat", sum := "847d9863b95ff740140651a9990c93546a9684e3164d46d49ea862746774ced1", func := "pub-tallier/laws.FnExpo", spec := "fnExpo", inPlace := ["math.Float64bits", "math.Float64frombits", "math.archLog", "math.archTrunc"], unfollowed := true, recurses := true, named := ["encoding/binary.LittleEndian"], plainKeys := false, apart := false }
def FnExpoSaid : Prop := fnExpoRow.holds Tryz.pinned (OpenSpec.ofChange fnExpoSpec)

/-- ITS FALSE NEIGHBOUR: 'it returns false'. Refute it at one input. -/
def fnExpoWrong : ChangeSpec := { name := "fnExpo", fn := fun _ => fun
  | [d1, d2, d3, d4] => { results := [.lit (.bool false)], args := [d1, d2, d3, d4] }
  | _ => none }
def FnExpoWrongFalsely : Prop := fnExpoRow.holds Tryz.pinned (OpenSpec.ofChange fnExpoWrong)

/- THE SECOND FORM. 'bulk': how many values and letters a reading holds, each counted each time it is reached (what is shared counts as often as it is met; a slice's spare places count too). A statement '..UptoSaid' is the law's where the arguments, and the package variables that the reading takes, are together of bulk at most 1048576: NARROWER than '..Said'. Prove '..Said' where nothing that the law and all that it calls make is longer than what came in: it says more and counts as full. Else prove '..UptoSaid'. A law counts once. -/
mutual
def uptoBulk {H : Type} : DataW H → Nat
  | .lit (.string bytes) => bytes.length + 1
  | .lit _ => 1
  | .nil => 1
  | .ptr d => uptoBulk d + 1
  | .slice elems spare => uptoBulkAll elems + uptoBulkAll spare + 1
  | .agg parts => uptoBulkAll parts + 1
  | .iface _ d => uptoBulk d + 1
  | .map entries => uptoBulkEntries entries + 1
  | .held _ => 1
def uptoBulkAll {H : Type} : List (DataW H) → Nat
  | [] => 0
  | d :: r => uptoBulk d + uptoBulkAll r
def uptoBulkEntries {H : Type} : List (Lit × DataW H) → Nat
  | [] => 0
  | x :: r => uptoBulkEntry x + uptoBulkEntries r
def uptoBulkEntry {H : Type} : Lit × DataW H → Nat
  | (.string bytes, d) => bytes.length + uptoBulk d + 1
  | (_, d) => uptoBulk d + 1
 end
def uptoSmall : (H : Type) → List (DataW H) → Bool := fun _ ds => decide (uptoBulkAll ds ≤ 1048576)
def OpenSpec.upto (s : _root_.Go.ChangeSpec) : _root_.Go.OpenSpec := { _root_.Go.OpenSpec.ofChange s with cond := some uptoSmall }

/-- 'laws.FnExpoCounts', WHERE WHAT IT READS IS OF BULK AT MOST 1048576: true; the input reads as it did. -/
def fnExpoCountsUptoRow : OpenClaim := { program := "ytlpddogcnpokfaagreat", sum := "847d9863b95ff740140651a9990c93546a9684e3164d46d49ea862746774ced1", func := "pub-tallier/laws.FnExpoCounts", spec := "fnExpoCounts", inPlace := ["math.Float64frombits", "math.Float64bits", "math.archLog"], unfollowed := true, recurses := true, named := ["encoding/binary.LittleEndian"], plainKeys := false, apart := false, narrowed := true }
def FnExpoCountsUptoSaid : Prop := fnExpoCountsUptoRow.holds Tryz.pinned (OpenSpec.upto fnExpoCountsSpec)

/-- 'laws.FnExpoDoubled', WHERE WHAT IT READS IS OF BULK AT MOST 1048576: true; the input reads as it did. -/
def fnExpoDoubledUptoRow : OpenClaim := { program := "ytlpddogcnpokfaagreat", sum := "847d9863b95ff740140651a9990c93546a9684e3164d46d49ea862746774ced1", func := "pub-tallier/laws.FnExpoDoubled", spec := "fnExpoDoubled", inPlace := ["math.Float64bits", "math.Float64frombits", "math.archLog"], unfollowed := true, recurses := true, named := ["encoding/binary.LittleEndian"], plainKeys := false, apart := false, narrowed := true }
def FnExpoDoubledUptoSaid : Prop := fnExpoDoubledUptoRow.holds Tryz.pinned (OpenSpec.upto fnExpoDoubledSpec)

/-- 'laws.FnExpoScales', WHERE WHAT IT READS IS OF BULK AT MOST 1048576: true; the input reads as it did. -/
def fnExpoScalesUptoRow : OpenClaim := { program := "ytlpddogcnpokfaagreat", sum := "847d9863b95ff740140651a9990c93546a9684e3164d46d49ea862746774ced1", func := "pub-tallier/laws.FnExpoScales", spec := "fnExpoScales", inPlace := ["math.Float64frombits", "math.Float64bits", "math.archLog"], unfollowed := true, recurses := true, named := ["encoding/binary.LittleEndian"], plainKeys := false, apart := false, narrowed := true }
def FnExpoScalesUptoSaid : Prop := fnExpoScalesUptoRow.holds Tryz.pinned (OpenSpec.upto fnExpoScalesSpec)

/-- 'laws.FnExpoSigns', WHERE WHAT IT READS IS OF BULK AT MOST 1048576: true; the input reads as it did. -/
def fnExpoSignsUptoRow : OpenClaim := { program := "ytlpddogcnpokfaagreat", sum := "847d9863b95ff740140651a9990c93546a9684e3164d46d49ea862746774ced1", func := "pub-tallier/laws.FnExpoSigns", spec := "fnExpoSigns", inPlace := ["math.Float64frombits", "math.Float64bits", "math.archLog"], unfollowed := true, recurses := true, named := ["encoding/binary.LittleEndian"], plainKeys := false, apart := false, narrowed := true }
def FnExpoSignsUptoSaid : Prop := fnExpoSignsUptoRow.holds Tryz.pinned (OpenSpec.upto fnExpoSignsSpec)

/-- 'laws.FnExpoInts', WHERE WHAT IT READS IS OF BULK AT MOST 1048576: true; the input reads as it did. -/
def fnExpoIntsUptoRow : OpenClaim := { program := "ytlpddogcnpokfaagreat", sum := "847d9863b95ff740140651a9990c93546a9684e3164d46d49ea862746774ced1", func := "pub-tallier/laws.FnExpoInts", spec := "fnExpoInts", inPlace := ["math.Float64bits", "math.Float64frombits", "math.archLog"], unfollowed := true, recurses := true, named := ["encoding/binary.LittleEndian"], plainKeys := false, apart := false, narrowed := true }
def FnExpoIntsUptoSaid : Prop := fnExpoIntsUptoRow.holds Tryz.pinned (OpenSpec.upto fnExpoIntsSpec)

/-- 'laws.FnExpoOrder', WHERE WHAT IT READS IS OF BULK AT MOST 1048576: true; the input reads as it did. -/
def fnExpoOrderUptoRow : OpenClaim := { program := "ytlpddogcnpokfaagreat", sum := "847d9863b95ff740140651a9990c93546a9684e3164d46d49ea862746774ced1", func := "pub-tallier/laws.FnExpoOrder", spec := "fnExpoOrder", inPlace := ["math.Float64frombits", "math.Float64bits", "math.archLog"], unfollowed := true, recurses := true, named := ["encoding/binary.LittleEndian"], plainKeys := false, apart := false, narrowed := true }
def FnExpoOrderUptoSaid : Prop := fnExpoOrderUptoRow.holds Tryz.pinned (OpenSpec.upto fnExpoOrderSpec)

/-- 'laws.FnExpo', WHERE WHAT IT READS IS OF BULK AT MOST 1048576: true; the input reads as it did. -/
def fnExpoUptoRow : OpenClaim := { program := "ytlpddogcnpokfaagreat", sum := "847d9863b95ff740140651a9990c93546a9684e3164d46d49ea862746774ced1", func := "pub-tallier/laws.FnExpo", spec := "fnExpo", inPlace := ["math.Float64bits", "math.Float64frombits", "math.archLog", "math.archTrunc"], unfollowed := true, recurses := true, named := ["encoding/binary.LittleEndian"], plainKeys := false, apart := false, narrowed := true }
def FnExpoUptoSaid : Prop := fnExpoUptoRow.holds Tryz.pinned (OpenSpec.upto fnExpoSpec)

end Rows
end Go.Proofs.YtlpddogcnpokfaaGreat
