/-
  No cell of these rows narrows 'for every input' (looked for: loops, veiled, ifaces, maps, wideKeys, modest, calm, conditions, laid).
  DERIVED. THE GIVEN ROWS OF THIS SEAT. 6 by the template 'for every input the law returns true; each argument reads behind the call as it read before'; 0 by the template 'total and deterministic' (their statements: YtgfneibklomdjaaTotals.lean).
  GIVEN WITH THE SEED: the statements are not yours to turn. If you find one false, say at which input.
  Laid BY PROGRAM, IN A SANDBOX (cutbox-rows.mjs): the forced cells as the released guide's own fill.sh prints them over the translation 414a43f9be35d35c… (all of the seat's roots in one cut). By AI agents, Wed Nov 11 2026. No macro, syntax, notation, axiom, sorry.
-/
import Derived.Test.YtgfneibklomdjaaChecked
import GoSem.Claim
import GoSem.ClaimJoined
import GoSem.ClaimMapViews
import Derived.JoinedTies
import Derived.KernelRfl
namespace Go.Proofs.Ytgfneibklomdjaa
/- THE CELL 'sum', in the pinned program and in every row, IS THE sha256 OF THE DUMP (.gsa) THAT YtgfneibklomdjaaProg.lean LOADS. Nothing in Lean hashes anything: it is a label: what it is worth is what the hold of that sum in a sandbox is worth. -/
noncomputable def Try.pinned : Pinned := { name := "ytgfneibklomdjaa", sum := "414a43f9be35d35ccf6e696e2ea157179ef68c4d548e3c32ef675c12de87da0e", checked := Try.checked }
namespace Rows
def none {H : Type} : Left H := { results := [], args := [] }

/-- 'laws.FnCombine': WHATEVER THE INPUT: true; the input reads as it did. -/
def fnCombineSpec : ChangeSpec := { name := "fnCombine", fn := fun _ => fun
  | [d1, d2] => { results := [.lit (.bool true)], args := [d1, d2] }
  | _ => none }
def fnCombineRow : OpenClaim := { program := "ytgfneibklomdjaa", sum := "414a43f9be35d35ccf6e696e2ea157179ef68c4d548e3c32ef675c12de87da0e", func := "stampwheel/laws.FnCombine", spec := "fnCombine", apart := false }
def FnCombineSaid : Prop := fnCombineRow.holds Try.pinned (OpenSpec.ofChange fnCombineSpec)

/-- ITS FALSE NEIGHBOUR: 'it returns false'. Refute it at one input. -/
def fnCombineWrong : ChangeSpec := { name := "fnCombine", fn := fun _ => fun
  | [d1, d2] => { results := [.lit (.bool false)], args := [d1, d2] }
  | _ => none }
def FnCombineWrongFalsely : Prop := fnCombineRow.holds Try.pinned (OpenSpec.ofChange fnCombineWrong)

/-- 'laws.FnBeyond': WHATEVER THE INPUT: true; the input reads as it did. -/
def fnBeyondSpec : ChangeSpec := { name := "fnBeyond", fn := fun _ => fun
  | [d] => { results := [.lit (.bool true)], args := [d] }
  | _ => none }
def fnBeyondRow : OpenClaim := { program := "ytgfneibklomdjaa", sum := "414a43f9be35d35ccf6e696e2ea157179ef68c4d548e3c32ef675c12de87da0e", func := "stampwheel/laws.FnBeyond", spec := "fnBeyond", apart := false }
def FnBeyondSaid : Prop := fnBeyondRow.holds Try.pinned (OpenSpec.ofChange fnBeyondSpec)

/-- ITS FALSE NEIGHBOUR: 'it returns false'. Refute it at one input. -/
def fnBeyondWrong : ChangeSpec := { name := "fnBeyond", fn := fun _ => fun
  | [d] => { results := [.lit (.bool false)], args := [d] }
  | _ => none }
def FnBeyondWrongFalsely : Prop := fnBeyondRow.holds Try.pinned (OpenSpec.ofChange fnBeyondWrong)

/-- 'laws.FnAreUnits': WHATEVER THE INPUT: true; the input reads as it did. -/
def fnAreUnitsSpec : ChangeSpec := { name := "fnAreUnits", fn := fun _ => fun
  | [d1, d2] => { results := [.lit (.bool true)], args := [d1, d2] }
  | _ => none }
def fnAreUnitsRow : OpenClaim := { program := "ytgfneibklomdjaa", sum := "414a43f9be35d35ccf6e696e2ea157179ef68c4d548e3c32ef675c12de87da0e", func := "stampwheel/laws.FnAreUnits", spec := "fnAreUnits", apart := false }
def FnAreUnitsSaid : Prop := fnAreUnitsRow.holds Try.pinned (OpenSpec.ofChange fnAreUnitsSpec)

/-- ITS FALSE NEIGHBOUR: 'it returns false'. Refute it at one input. -/
def fnAreUnitsWrong : ChangeSpec := { name := "fnAreUnits", fn := fun _ => fun
  | [d1, d2] => { results := [.lit (.bool false)], args := [d1, d2] }
  | _ => none }
def FnAreUnitsWrongFalsely : Prop := fnAreUnitsRow.holds Try.pinned (OpenSpec.ofChange fnAreUnitsWrong)

/-- 'laws.FnSameBits': WHATEVER THE INPUT: true; the input reads as it did. -/
def fnSameBitsSpec : ChangeSpec := { name := "fnSameBits", fn := fun _ => fun
  | [d1, d2, d3] => { results := [.lit (.bool true)], args := [d1, d2, d3] }
  | _ => none }
def fnSameBitsRow : OpenClaim := { program := "ytgfneibklomdjaa", sum := "414a43f9be35d35ccf6e696e2ea157179ef68c4d548e3c32ef675c12de87da0e", func := "stampwheel/laws.FnSameBits", spec := "fnSameBits", apart := false }
def FnSameBitsSaid : Prop := fnSameBitsRow.holds Try.pinned (OpenSpec.ofChange fnSameBitsSpec)

/-- ITS FALSE NEIGHBOUR: 'it returns false'. Refute it at one input. -/
def fnSameBitsWrong : ChangeSpec := { name := "fnSameBits", fn := fun _ => fun
  | [d1, d2, d3] => { results := [.lit (.bool false)], args := [d1, d2, d3] }
  | _ => none }
def FnSameBitsWrongFalsely : Prop := fnSameBitsRow.holds Try.pinned (OpenSpec.ofChange fnSameBitsWrong)

/-- 'laws.FnBits': WHATEVER THE INPUT: true; the input reads as it did. -/
def fnBitsSpec : ChangeSpec := { name := "fnBits", fn := fun _ => fun
  | [d1, d2] => { results := [.lit (.bool true)], args := [d1, d2] }
  | _ => none }
def fnBitsRow : OpenClaim := { program := "ytgfneibklomdjaa", sum := "414a43f9be35d35ccf6e696e2ea157179ef68c4d548e3c32ef675c12de87da0e", func := "stampwheel/laws.FnBits", spec := "fnBits", apart := false }
def FnBitsSaid : Prop := fnBitsRow.holds Try.pinned (OpenSpec.ofChange fnBitsSpec)

/-- ITS FALSE NEIGHBOUR: 'it returns false'. Refute it at one input. -/
def fnBitsWrong : ChangeSpec := { name := "fnBits", fn := fun _ => fun
  | [d1, d2] => { results := [.lit (.bool false)], args := [d1, d2] }
  | _ => none }
def FnBitsWrongFalsely : Prop := fnBitsRow.holds Try.pinned (OpenSpec.ofChange fnBitsWrong)

/-- 'laws.FnSameLists': WHATEVER THE INPUT: true; the input reads as it did. -/
def fnSameListsSpec : ChangeSpec := { name := "fnSameLists", fn := fun _ => fun
  | [d1, d2] => { results := [.lit (.bool true)], args := [d1, d2] }
  | _ => none }
def fnSameListsRow : OpenClaim := { program := "ytgfneibklomdjaa", sum := "414a43f9be35d35ccf6e696e2ea157179ef68c4d548e3c32ef675c12de87da0e", func := "stampwheel/laws.FnSameLists", spec := "fnSameLists", apart := false }
def FnSameListsSaid : Prop := fnSameListsRow.holds Try.pinned (OpenSpec.ofChange fnSameListsSpec)

/-- ITS FALSE NEIGHBOUR: 'it returns false'. Refute it at one input. -/
def fnSameListsWrong : ChangeSpec := { name := "fnSameLists", fn := fun _ => fun
  | [d1, d2] => { results := [.lit (.bool false)], args := [d1, d2] }
  | _ => none }
def FnSameListsWrongFalsely : Prop := fnSameListsRow.holds Try.pinned (OpenSpec.ofChange fnSameListsWrong)

/- THE SECOND FORM. 'bulk': how many values and letters a reading holds, each counted each time it is reached (what is shared counts as often as it is met; a slice's spare places count too). A statement '..UptoSaid' is the law's where the arguments, and the package variables that the reading takes, are together of bulk at most 1048576: NARROWER than '..Said'. Prove '..Said' where nothing that the law and all that it calls make is longer than what came in: it says more and counts as full. Else prove '..UptoSaid'. A law counts once. -/
mutual
def uptoBulk {H : Type} : DataW H → Nat
  | .lit (.string bytes) => bytes.length + 1
  | .lit _ => 1
  | .nil => 1
  | .ptr d => uptoBulk d + 1
  | .slice elems spare => uptoBulkAll elems + uptoBulkAll spare + 1
  | .agg parts => uptoBulkAll parts + 1
  | .iface _ d => uptoBulk d + 1
  | .map entries => uptoBulkEntries entries + 1
  | .held _ => 1
def uptoBulkAll {H : Type} : List (DataW H) → Nat
  | [] => 0
  | d :: r => uptoBulk d + uptoBulkAll r
def uptoBulkEntries {H : Type} : List (Lit × DataW H) → Nat
  | [] => 0
  | x :: r => uptoBulkEntry x + uptoBulkEntries r
def uptoBulkEntry {H : Type} : Lit × DataW H → Nat
  | (.string bytes, d) => bytes.length + uptoBulk d + 1
  | (_, d) => uptoBulk d + 1
 end
def uptoSmall : (H : Type) → List (DataW H) → Bool := fun _ ds => decide (uptoBulkAll ds ≤ 1048576)
def OpenSpec.upto (s : _root_.Go.ChangeSpec) : _root_.Go.OpenSpec := { _root_.Go.OpenSpec.ofChange s with cond := some uptoSmall }

/-- 'laws.FnCombine', WHERE WHAT IT READS IS OF BULK AT MOST 1048576: true; the input reads as it did. -/
def fnCombineUptoRow : OpenClaim := { program := "ytgfneibklomdjaa", sum := "414a43f9be35d35ccf6e696e2ea157179ef68c4d548e3c32ef675c12de87da0e", func := "stampwheel/laws.FnCombine", spec := "fnCombine", apart := false, narrowed := true }
def FnCombineUptoSaid : Prop := fnCombineUptoRow.holds Try.pinned (OpenSpec.upto fnCombineSpec)

/-- 'laws.FnBeyond', WHERE WHAT IT READS IS OF BULK AT MOST 1048576: true; the input reads as it did. -/
def fnBeyondUptoRow : OpenClaim := { program := "ytgfneibklomdjaa", sum := "414a43f9be35d35ccf6e696e2ea157179ef68c4d548e3c32ef675c12de87da0e", func := "stampwheel/laws.FnBeyond", spec := "fnBeyond", apart := false, narrowed := true }
def FnBeyondUptoSaid : Prop := fnBeyondUptoRow.holds Try.pinned (OpenSpec.upto fnBeyondSpec)

/-- 'laws.FnAreUnits', WHERE WHAT IT READS IS OF BULK AT MOST 1048576: true; the input reads as it did. -/
def fnAreUnitsUptoRow : OpenClaim := { program := "ytgfneibklomdjaa", sum := "414a43f9be35d35ccf6e696e2ea157179ef68c4d548e3c32ef675c12de87da0e", func := "stampwheel/laws.FnAreUnits", spec := "fnAreUnits", apart := false, narrowed := true }
def FnAreUnitsUptoSaid : Prop := fnAreUnitsUptoRow.holds Try.pinned (OpenSpec.upto fnAreUnitsSpec)

/-- 'laws.FnSameBits', WHERE WHAT IT READS IS OF BULK AT MOST 1048576: true; the input reads as it did. -/
def fnSameBitsUptoRow : OpenClaim := { program := "ytgfneibklomdjaa", sum := "414a43f9be35d35ccf6e696e2ea157179ef68c4d548e3c32ef675c12de87da0e", func := "stampwheel/laws.FnSameBits", spec := "fnSameBits", apart := false, narrowed := true }
def FnSameBitsUptoSaid : Prop := fnSameBitsUptoRow.holds Try.pinned (OpenSpec.upto fnSameBitsSpec)

/-- 'laws.FnBits', WHERE WHAT IT READS IS OF BULK AT MOST 1048576: true; the input reads as it did. -/
def fnBitsUptoRow : OpenClaim := { program := "ytgfneibklomdjaa", sum := "414a43f9be35d35ccf6e696e2ea157179ef68c4d548e3c32ef675c12de87da0e", func := "stampwheel/laws.FnBits", spec := "fnBits", apart := false, narrowed := true }
def FnBitsUptoSaid : Prop := fnBitsUptoRow.holds Try.pinned (OpenSpec.upto fnBitsSpec)

/-- 'laws.FnSameLists', WHERE WHAT IT READS IS OF BULK AT MOST 1048576: true; the input reads as it did. -/
def fnSameListsUptoRow : OpenClaim := { program := "ytgfneibklomdjaa", sum := "414a43f9be35d35ccf6e696e2ea157179ef68c4d548e3c32ef675c12de87da0e", func := "stampwheel/laws.FnSameLists", spec := "fnSameLists", apart := false, narrowed := true }
def FnSameListsUptoSaid : Prop := fnSameListsUptoRow.holds Try.pinned (OpenSpec.upto fnSameListsSpec)

end Rows
end Go.Proofs.Ytgfneibklomdjaa
