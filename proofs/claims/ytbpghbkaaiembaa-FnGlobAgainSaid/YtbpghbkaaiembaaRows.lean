/-
  No cell of these rows narrows 'for every input' (looked for: loops, veiled, ifaces, maps, wideKeys, modest, calm, conditions, laid).
  DERIVED. THE GIVEN ROWS OF THIS SEAT. 4 by the template 'for every input the law returns true; each argument reads behind the call as it read before'; 0 by the template 'total and deterministic' (their statements: YtbpghbkaaiembaaTotals.lean).
  GIVEN WITH THE SEED: the statements are not yours to turn. If you find one false, say at which input.
  Laid BY PROGRAM, IN A SANDBOX (cutbox-rows.mjs): the forced cells as the released guide's own fill.sh prints them over the translation 53d0f4365c9ccc02… (all of the seat's roots in one cut). By AI agents, Wed Nov 11 2026. No macro, syntax, notation, axiom, sorry.
-/
import Derived.Test.YtbpghbkaaiembaaChecked
import GoSem.Claim
import GoSem.ClaimJoined
import GoSem.ClaimMapViews
import Derived.JoinedTies
import Derived.KernelRfl
namespace Go.Proofs.Ytbpghbkaaiembaa
/- THE CELL 'sum', in the pinned program and in every row, IS THE sha256 OF THE DUMP (.gsa) THAT YtbpghbkaaiembaaProg.lean LOADS. Nothing in Lean hashes anything: it is a label: what it is worth is what the hold of that sum in a sandbox is worth. -/
noncomputable def Try.pinned : Pinned := { name := "ytbpghbkaaiembaa", sum := "53d0f4365c9ccc02243ee77b332bd7c3069df978c8c69f524475f5646c9f7582", checked := Try.checked }
namespace Rows
def none {H : Type} : Left H := { results := [], args := [] }

/-- 'laws.FnGlobKinds': WHATEVER THE INPUT: true; the input reads as it did. -/
def fnGlobKindsSpec : ChangeSpec := { name := "fnGlobKinds", fn := fun _ => fun
  | [d] => { results := [.lit (.bool true)], args := [d] }
  | _ => none }
def fnGlobKindsRow : OpenClaim := { program := "ytbpghbkaaiembaa", sum := "53d0f4365c9ccc02243ee77b332bd7c3069df978c8c69f524475f5646c9f7582", func := "stampwheel/laws.FnGlobKinds", spec := "fnGlobKinds", inPlace := ["internal/bytealg.IndexByteString"], apart := false }
def FnGlobKindsSaid : Prop := fnGlobKindsRow.holds Try.pinned (OpenSpec.ofChange fnGlobKindsSpec)

/-- ITS FALSE NEIGHBOUR: 'it returns false'. Refute it at one input. -/
def fnGlobKindsWrong : ChangeSpec := { name := "fnGlobKinds", fn := fun _ => fun
  | [d] => { results := [.lit (.bool false)], args := [d] }
  | _ => none }
def FnGlobKindsWrongFalsely : Prop := fnGlobKindsRow.holds Try.pinned (OpenSpec.ofChange fnGlobKindsWrong)

/-- 'laws.FnGlobParts': WHATEVER THE INPUT: true; the input reads as it did. -/
def fnGlobPartsSpec : ChangeSpec := { name := "fnGlobParts", fn := fun _ => fun
  | [d] => { results := [.lit (.bool true)], args := [d] }
  | _ => none }
def fnGlobPartsRow : OpenClaim := { program := "ytbpghbkaaiembaa", sum := "53d0f4365c9ccc02243ee77b332bd7c3069df978c8c69f524475f5646c9f7582", func := "stampwheel/laws.FnGlobParts", spec := "fnGlobParts", inPlace := ["internal/bytealg.IndexByteString"], apart := false }
def FnGlobPartsSaid : Prop := fnGlobPartsRow.holds Try.pinned (OpenSpec.ofChange fnGlobPartsSpec)

/-- ITS FALSE NEIGHBOUR: 'it returns false'. Refute it at one input. -/
def fnGlobPartsWrong : ChangeSpec := { name := "fnGlobParts", fn := fun _ => fun
  | [d] => { results := [.lit (.bool false)], args := [d] }
  | _ => none }
def FnGlobPartsWrongFalsely : Prop := fnGlobPartsRow.holds Try.pinned (OpenSpec.ofChange fnGlobPartsWrong)

/-- 'laws.FnGlobAgain': WHATEVER THE INPUT: true; the input reads as it did. -/
def fnGlobAgainSpec : ChangeSpec := { name := "fnGlobAgain", fn := fun _ => fun
  | [d] => { results := [.lit (.bool true)], args := [d] }
  | _ => none }
def fnGlobAgainRow : OpenClaim := { program := "ytbpghbkaaiembaa", sum := "53d0f4365c9ccc02243ee77b332bd7c3069df978c8c69f524475f5646c9f7582", func := "stampwheel/laws.FnGlobAgain", spec := "fnGlobAgain", inPlace := ["internal/bytealg.IndexByteString", "internal/abi.NoEscape"], apart := false }
def FnGlobAgainSaid : Prop := fnGlobAgainRow.holds Try.pinned (OpenSpec.ofChange fnGlobAgainSpec)

/-- ITS FALSE NEIGHBOUR: 'it returns false'. Refute it at one input. -/
def fnGlobAgainWrong : ChangeSpec := { name := "fnGlobAgain", fn := fun _ => fun
  | [d] => { results := [.lit (.bool false)], args := [d] }
  | _ => none }
def FnGlobAgainWrongFalsely : Prop := fnGlobAgainRow.holds Try.pinned (OpenSpec.ofChange fnGlobAgainWrong)

/-- 'laws.FnGlobBack': WHATEVER THE INPUT: true; the input reads as it did. -/
def fnGlobBackSpec : ChangeSpec := { name := "fnGlobBack", fn := fun _ => fun
  | [d] => { results := [.lit (.bool true)], args := [d] }
  | _ => none }
def fnGlobBackRow : OpenClaim := { program := "ytbpghbkaaiembaa", sum := "53d0f4365c9ccc02243ee77b332bd7c3069df978c8c69f524475f5646c9f7582", func := "stampwheel/laws.FnGlobBack", spec := "fnGlobBack", inPlace := ["internal/bytealg.IndexByteString", "internal/abi.NoEscape"], apart := false }
def FnGlobBackSaid : Prop := fnGlobBackRow.holds Try.pinned (OpenSpec.ofChange fnGlobBackSpec)

/-- ITS FALSE NEIGHBOUR: 'it returns false'. Refute it at one input. -/
def fnGlobBackWrong : ChangeSpec := { name := "fnGlobBack", fn := fun _ => fun
  | [d] => { results := [.lit (.bool false)], args := [d] }
  | _ => none }
def FnGlobBackWrongFalsely : Prop := fnGlobBackRow.holds Try.pinned (OpenSpec.ofChange fnGlobBackWrong)

/- THE SECOND FORM. 'bulk': how many values and letters a reading holds, each counted each time it is reached (what is shared counts as often as it is met; a slice's spare places count too). A statement '..UptoSaid' is the law's where the arguments, and the package variables that the reading takes, are together of bulk at most 1048576: NARROWER than '..Said'. Prove '..Said' where nothing that the law and all that it calls make is longer than what came in: it says more and counts as full. Else prove '..UptoSaid'. A law counts once. -/
mutual
def uptoBulk {H : Type} : DataW H → Nat
  | .lit (.string bytes) => bytes.length + 1
  | .lit _ => 1
  | .nil => 1
  | .ptr d => uptoBulk d + 1
  | .slice elems spare => uptoBulkAll elems + uptoBulkAll spare + 1
  | .agg parts => uptoBulkAll parts + 1
  | .iface _ d => uptoBulk d + 1
  | .map entries => uptoBulkEntries entries + 1
  | .held _ => 1
def uptoBulkAll {H : Type} : List (DataW H) → Nat
  | [] => 0
  | d :: r => uptoBulk d + uptoBulkAll r
def uptoBulkEntries {H : Type} : List (Lit × DataW H) → Nat
  | [] => 0
  | x :: r => uptoBulkEntry x + uptoBulkEntries r
def uptoBulkEntry {H : Type} : Lit × DataW H → Nat
  | (.string bytes, d) => bytes.length + uptoBulk d + 1
  | (_, d) => uptoBulk d + 1
 end
def uptoSmall : (H : Type) → List (DataW H) → Bool := fun _ ds => decide (uptoBulkAll ds ≤ 1048576)
def OpenSpec.upto (s : _root_.Go.ChangeSpec) : _root_.Go.OpenSpec := { _root_.Go.OpenSpec.ofChange s with cond := some uptoSmall }

/-- 'laws.FnGlobKinds', WHERE WHAT IT READS IS OF BULK AT MOST 1048576: true; the input reads as it did. -/
def fnGlobKindsUptoRow : OpenClaim := { program := "ytbpghbkaaiembaa", sum := "53d0f4365c9ccc02243ee77b332bd7c3069df978c8c69f524475f5646c9f7582", func := "stampwheel/laws.FnGlobKinds", spec := "fnGlobKinds", inPlace := ["internal/bytealg.IndexByteString"], apart := false, narrowed := true }
def FnGlobKindsUptoSaid : Prop := fnGlobKindsUptoRow.holds Try.pinned (OpenSpec.upto fnGlobKindsSpec)

/-- 'laws.FnGlobParts', WHERE WHAT IT READS IS OF BULK AT MOST 1048576: true; the input reads as it did. -/
def fnGlobPartsUptoRow : OpenClaim := { program := "ytbpghbkaaiembaa", sum := "53d0f4365c9ccc02243ee77b332bd7c3069df978c8c69f524475f5646c9f7582", func := "stampwheel/laws.FnGlobParts", spec := "fnGlobParts", inPlace := ["internal/bytealg.IndexByteString"], apart := false, narrowed := true }
def FnGlobPartsUptoSaid : Prop := fnGlobPartsUptoRow.holds Try.pinned (OpenSpec.upto fnGlobPartsSpec)

/-- 'laws.FnGlobAgain', WHERE WHAT IT READS IS OF BULK AT MOST 1048576: true; the input reads as it did. -/
def fnGlobAgainUptoRow : OpenClaim := { program := "ytbpghbkaaiembaa", sum := "53d0f4365c9ccc02243ee77b332bd7c3069df978c8c69f524475f5646c9f7582", func := "stampwheel/laws.FnGlobAgain", spec := "fnGlobAgain", inPlace := ["internal/bytealg.IndexByteString", "internal/abi.NoEscape"], apart := false, narrowed := true }
def FnGlobAgainUptoSaid : Prop := fnGlobAgainUptoRow.holds Try.pinned (OpenSpec.upto fnGlobAgainSpec)

/-- 'laws.FnGlobBack', WHERE WHAT IT READS IS OF BULK AT MOST 1048576: true; the input reads as it did. -/
def fnGlobBackUptoRow : OpenClaim := { program := "ytbpghbkaaiembaa", sum := "53d0f4365c9ccc02243ee77b332bd7c3069df978c8c69f524475f5646c9f7582", func := "stampwheel/laws.FnGlobBack", spec := "fnGlobBack", inPlace := ["internal/bytealg.IndexByteString", "internal/abi.NoEscape"], apart := false, narrowed := true }
def FnGlobBackUptoSaid : Prop := fnGlobBackUptoRow.holds Try.pinned (OpenSpec.upto fnGlobBackSpec)

end Rows
end Go.Proofs.Ytbpghbkaaiembaa
