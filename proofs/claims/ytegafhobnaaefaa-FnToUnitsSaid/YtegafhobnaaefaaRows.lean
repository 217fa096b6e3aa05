/-
  No cell of these rows narrows 'for every input' (looked for: loops, veiled, ifaces, maps, wideKeys, modest, calm, conditions, laid).
  DERIVED. THE GIVEN ROWS OF THIS SEAT. 3 by the template 'for every input the law returns true; each argument reads behind the call as it read before'; 0 by the template 'total and deterministic' (their statements: YtegafhobnaaefaaTotals.lean).
  GIVEN WITH THE SEED: the statements are not yours to turn. If you find one false, say at which input.
  Laid BY PROGRAM, IN A SANDBOX (cutbox-rows.mjs): the forced cells as the released guide's own fill.sh prints them over the translation d1b67efae86a2818… (all of the seat's roots in one cut). By AI agents, Wed Nov 11 2026. No macro, syntax, notation, axiom, sorry.
-/
import Derived.Test.YtegafhobnaaefaaChecked
import GoSem.Claim
import GoSem.ClaimJoined
import GoSem.ClaimMapViews
import Derived.JoinedTies
import Derived.KernelRfl
namespace Go.Proofs.Ytegafhobnaaefaa
/- THE CELL 'sum', in the pinned program and in every row, IS THE sha256 OF THE DUMP (.gsa) THAT YtegafhobnaaefaaProg.lean LOADS. Nothing in Lean hashes anything: it is a label: what it is worth is what the hold of that sum in a sandbox is worth. -/
noncomputable def Try.pinned : Pinned := { name := "ytegafhobnaaefaa", sum := "d1b67efae86a2818c310071af638daa314c1e75e849ce00aac95f52d8ac66e3a", checked := Try.checked }
namespace Rows
def none {H : Type} : Left H := { results := [], args := [] }

/-- 'laws.FnToUnits': WHATEVER THE INPUT: true; the input reads as it did. -/
def fnToUnitsSpec : ChangeSpec := { name := "fnToUnits", fn := fun _ => fun
  | [d] => { results := [.lit (.bool true)], args := [d] }
  | _ => none }
def fnToUnitsRow : OpenClaim := { program := "ytegafhobnaaefaa", sum := "d1b67efae86a2818c310071af638daa314c1e75e849ce00aac95f52d8ac66e3a", func := "stampwheel/laws.FnToUnits", spec := "fnToUnits", apart := false }
def FnToUnitsSaid : Prop := fnToUnitsRow.holds Try.pinned (OpenSpec.ofChange fnToUnitsSpec)

/-- ITS FALSE NEIGHBOUR: 'it returns false'. Refute it at one input. -/
def fnToUnitsWrong : ChangeSpec := { name := "fnToUnits", fn := fun _ => fun
  | [d] => { results := [.lit (.bool false)], args := [d] }
  | _ => none }
def FnToUnitsWrongFalsely : Prop := fnToUnitsRow.holds Try.pinned (OpenSpec.ofChange fnToUnitsWrong)

/-- 'laws.FnPoint': WHATEVER THE INPUT: true; the input reads as it did. -/
def fnPointSpec : ChangeSpec := { name := "fnPoint", fn := fun _ => fun
  | [d] => { results := [.lit (.bool true)], args := [d] }
  | _ => none }
def fnPointRow : OpenClaim := { program := "ytegafhobnaaefaa", sum := "d1b67efae86a2818c310071af638daa314c1e75e849ce00aac95f52d8ac66e3a", func := "stampwheel/laws.FnPoint", spec := "fnPoint", apart := false }
def FnPointSaid : Prop := fnPointRow.holds Try.pinned (OpenSpec.ofChange fnPointSpec)

/-- ITS FALSE NEIGHBOUR: 'it returns false'. Refute it at one input. -/
def fnPointWrong : ChangeSpec := { name := "fnPoint", fn := fun _ => fun
  | [d] => { results := [.lit (.bool false)], args := [d] }
  | _ => none }
def FnPointWrongFalsely : Prop := fnPointRow.holds Try.pinned (OpenSpec.ofChange fnPointWrong)

/-- 'laws.FnPointNone': WHATEVER THE INPUT: true; the input reads as it did. -/
def fnPointNoneSpec : ChangeSpec := { name := "fnPointNone", fn := fun _ => fun
  | [d] => { results := [.lit (.bool true)], args := [d] }
  | _ => none }
def fnPointNoneRow : OpenClaim := { program := "ytegafhobnaaefaa", sum := "d1b67efae86a2818c310071af638daa314c1e75e849ce00aac95f52d8ac66e3a", func := "stampwheel/laws.FnPointNone", spec := "fnPointNone", apart := false }
def FnPointNoneSaid : Prop := fnPointNoneRow.holds Try.pinned (OpenSpec.ofChange fnPointNoneSpec)

/-- ITS FALSE NEIGHBOUR: 'it returns false'. Refute it at one input. -/
def fnPointNoneWrong : ChangeSpec := { name := "fnPointNone", fn := fun _ => fun
  | [d] => { results := [.lit (.bool false)], args := [d] }
  | _ => none }
def FnPointNoneWrongFalsely : Prop := fnPointNoneRow.holds Try.pinned (OpenSpec.ofChange fnPointNoneWrong)

/- THE SECOND FORM. 'bulk': how many values and letters a reading holds, each counted each time it is reached (what is shared counts as often as it is met; a slice's spare places count too). A statement '..UptoSaid' is the law's where the arguments, and the package variables that the reading takes, are together of bulk at most 1048576: NARROWER than '..Said'. Prove '..Said' where nothing that the law and all that it calls make is longer than what came in: it says more and counts as full. Else prove '..UptoSaid'. A law counts once. -/
mutual
def uptoBulk {H : Type} : DataW H → Nat
  | .lit (.string bytes) => bytes.length + 1
  | .lit _ => 1
  | .nil => 1
  | .ptr d => uptoBulk d + 1
  | .slice elems spare => uptoBulkAll elems + uptoBulkAll spare + 1
  | .agg parts => uptoBulkAll parts + 1
  | .iface _ d => uptoBulk d + 1
  | .map entries => uptoBulkEntries entries + 1
  | .held _ => 1
def uptoBulkAll {H : Type} : List (DataW H) → Nat
  | [] => 0
  | d :: r => uptoBulk d + uptoBulkAll r
def uptoBulkEntries {H : Type} : List (Lit × DataW H) → Nat
  | [] => 0
  | x :: r => uptoBulkEntry x + uptoBulkEntries r
def uptoBulkEntry {H : Type} : Lit × DataW H → Nat
  | (.string bytes, d) => bytes.length + uptoBulk d + 1
  | (_, d) => uptoBulk d + 1
 end
def uptoSmall : (H : Type) → List (DataW H) → Bool := fun _ ds => decide (uptoBulkAll ds ≤ 1048576)
def OpenSpec.upto (s : _root_.Go.ChangeSpec) : _root_.Go.OpenSpec := { _root_.Go.OpenSpec.ofChange s with cond := some uptoSmall }

/-- 'laws.FnToUnits', WHERE WHAT IT READS IS OF BULK AT MOST 1048576: true; the input reads as it did. -/
def fnToUnitsUptoRow : OpenClaim := { program := "ytegafhobnaaefaa", sum := "d1b67efae86a2818c310071af638daa314c1e75e849ce00aac95f52d8ac66e3a", func := "stampwheel/laws.FnToUnits", spec := "fnToUnits", apart := false, narrowed := true }
def FnToUnitsUptoSaid : Prop := fnToUnitsUptoRow.holds Try.pinned (OpenSpec.upto fnToUnitsSpec)

/-- 'laws.FnPoint', WHERE WHAT IT READS IS OF BULK AT MOST 1048576: true; the input reads as it did. -/
def fnPointUptoRow : OpenClaim := { program := "ytegafhobnaaefaa", sum := "d1b67efae86a2818c310071af638daa314c1e75e849ce00aac95f52d8ac66e3a", func := "stampwheel/laws.FnPoint", spec := "fnPoint", apart := false, narrowed := true }
def FnPointUptoSaid : Prop := fnPointUptoRow.holds Try.pinned (OpenSpec.upto fnPointSpec)

/-- 'laws.FnPointNone', WHERE WHAT IT READS IS OF BULK AT MOST 1048576: true; the input reads as it did. -/
def fnPointNoneUptoRow : OpenClaim := { program := "ytegafhobnaaefaa", sum := "d1b67efae86a2818c310071af638daa314c1e75e849ce00aac95f52d8ac66e3a", func := "stampwheel/laws.FnPointNone", spec := "fnPointNone", apart := false, narrowed := true }
def FnPointNoneUptoSaid : Prop := fnPointNoneUptoRow.holds Try.pinned (OpenSpec.upto fnPointNoneSpec)

end Rows
end Go.Proofs.Ytegafhobnaaefaa
