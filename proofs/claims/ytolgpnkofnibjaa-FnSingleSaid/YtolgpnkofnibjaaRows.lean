/-
  No cell of these rows narrows 'for every input' (looked for: loops, veiled, ifaces, maps, wideKeys, modest, calm, conditions, laid).
  DERIVED. THE GIVEN ROWS OF THIS SEAT. 7 by the template 'for every input the law returns true; each argument reads behind the call as it read before'; 0 by the template 'total and deterministic' (their statements: YtolgpnkofnibjaaTotals.lean).
  GIVEN WITH THE SEED: the statements are not yours to turn. If you find one false, say at which input.
  Laid BY PROGRAM, IN A SANDBOX (cutbox-rows.mjs): the forced cells as the released guide's own fill.sh prints them over the translation 8c51fd4a1d24a57f… (all of the seat's roots in one cut). By AI agents, Wed Nov 11 2026. No macro, syntax, notation, axiom, sorry.
-/
import Derived.Test.YtolgpnkofnibjaaChecked
import GoSem.Claim
import GoSem.ClaimJoined
import GoSem.ClaimMapViews
import Derived.JoinedTies
import Derived.KernelRfl
namespace Go.Proofs.Ytolgpnkofnibjaa
/- THE CELL 'sum', in the pinned program and in every row, IS THE sha256 OF THE DUMP (.gsa) THAT YtolgpnkofnibjaaProg.lean LOADS. Nothing in Lean hashes anything: it is a label: what it is worth is what the hold of that sum in a sandbox is worth. -/
noncomputable def Try.pinned : Pinned := { name := "ytolgpnkofnibjaa", sum := "8c51fd4a1d24a57f0e96baa950a8486eaf7de4a54a1803d1f48676640866ca77", checked := Try.checked }
namespace Rows
def none {H : Type} : Left H := { results := [], args := [] }

/-- 'laws.FnJSON': WHATEVER THE INPUT: true; the input reads as it did. -/
def fnJSONSpec : ChangeSpec := { name := "fnJSON", fn := fun _ => fun
  | [d1, d2] => { results := [.lit (.bool true)], args := [d1, d2] }
  | _ => none }
def fnJSONRow : OpenClaim := { program := "ytolgpnkofnibjaa", sum := "8c51fd4a1d24a57f0e96baa950a8486eaf7de4a54a1803d1f48676640866ca77", func := "stampwheel/laws.FnJSON", spec := "fnJSON", apart := false }
def FnJSONSaid : Prop := fnJSONRow.holds Try.pinned (OpenSpec.ofChange fnJSONSpec)

/-- ITS FALSE NEIGHBOUR: 'it returns false'. Refute it at one input. -/
def fnJSONWrong : ChangeSpec := { name := "fnJSON", fn := fun _ => fun
  | [d1, d2] => { results := [.lit (.bool false)], args := [d1, d2] }
  | _ => none }
def FnJSONWrongFalsely : Prop := fnJSONRow.holds Try.pinned (OpenSpec.ofChange fnJSONWrong)

/-- 'laws.FnJSONAscii': WHATEVER THE INPUT: true; the input reads as it did. -/
def fnJSONAsciiSpec : ChangeSpec := { name := "fnJSONAscii", fn := fun _ => fun
  | [d] => { results := [.lit (.bool true)], args := [d] }
  | _ => none }
def fnJSONAsciiRow : OpenClaim := { program := "ytolgpnkofnibjaa", sum := "8c51fd4a1d24a57f0e96baa950a8486eaf7de4a54a1803d1f48676640866ca77", func := "stampwheel/laws.FnJSONAscii", spec := "fnJSONAscii", apart := false }
def FnJSONAsciiSaid : Prop := fnJSONAsciiRow.holds Try.pinned (OpenSpec.ofChange fnJSONAsciiSpec)

/-- ITS FALSE NEIGHBOUR: 'it returns false'. Refute it at one input. -/
def fnJSONAsciiWrong : ChangeSpec := { name := "fnJSONAscii", fn := fun _ => fun
  | [d] => { results := [.lit (.bool false)], args := [d] }
  | _ => none }
def FnJSONAsciiWrongFalsely : Prop := fnJSONAsciiRow.holds Try.pinned (OpenSpec.ofChange fnJSONAsciiWrong)

/-- 'laws.FnSingle': WHATEVER THE INPUT: true; the input reads as it did. -/
def fnSingleSpec : ChangeSpec := { name := "fnSingle", fn := fun _ => fun
  | [d1, d2] => { results := [.lit (.bool true)], args := [d1, d2] }
  | _ => none }
def fnSingleRow : OpenClaim := { program := "ytolgpnkofnibjaa", sum := "8c51fd4a1d24a57f0e96baa950a8486eaf7de4a54a1803d1f48676640866ca77", func := "stampwheel/laws.FnSingle", spec := "fnSingle", apart := false }
def FnSingleSaid : Prop := fnSingleRow.holds Try.pinned (OpenSpec.ofChange fnSingleSpec)

/-- ITS FALSE NEIGHBOUR: 'it returns false'. Refute it at one input. -/
def fnSingleWrong : ChangeSpec := { name := "fnSingle", fn := fun _ => fun
  | [d1, d2] => { results := [.lit (.bool false)], args := [d1, d2] }
  | _ => none }
def FnSingleWrongFalsely : Prop := fnSingleRow.holds Try.pinned (OpenSpec.ofChange fnSingleWrong)

/-- 'laws.FnSingleAscii': WHATEVER THE INPUT: true; the input reads as it did. -/
def fnSingleAsciiSpec : ChangeSpec := { name := "fnSingleAscii", fn := fun _ => fun
  | [d] => { results := [.lit (.bool true)], args := [d] }
  | _ => none }
def fnSingleAsciiRow : OpenClaim := { program := "ytolgpnkofnibjaa", sum := "8c51fd4a1d24a57f0e96baa950a8486eaf7de4a54a1803d1f48676640866ca77", func := "stampwheel/laws.FnSingleAscii", spec := "fnSingleAscii", apart := false }
def FnSingleAsciiSaid : Prop := fnSingleAsciiRow.holds Try.pinned (OpenSpec.ofChange fnSingleAsciiSpec)

/-- ITS FALSE NEIGHBOUR: 'it returns false'. Refute it at one input. -/
def fnSingleAsciiWrong : ChangeSpec := { name := "fnSingleAscii", fn := fun _ => fun
  | [d] => { results := [.lit (.bool false)], args := [d] }
  | _ => none }
def FnSingleAsciiWrongFalsely : Prop := fnSingleAsciiRow.holds Try.pinned (OpenSpec.ofChange fnSingleAsciiWrong)

/-- 'laws.FnJSONPlain': WHATEVER THE INPUT: true; the input reads as it did. -/
def fnJSONPlainSpec : ChangeSpec := { name := "fnJSONPlain", fn := fun _ => fun
  | [d1, d2] => { results := [.lit (.bool true)], args := [d1, d2] }
  | _ => none }
def fnJSONPlainRow : OpenClaim := { program := "ytolgpnkofnibjaa", sum := "8c51fd4a1d24a57f0e96baa950a8486eaf7de4a54a1803d1f48676640866ca77", func := "stampwheel/laws.FnJSONPlain", spec := "fnJSONPlain", apart := false }
def FnJSONPlainSaid : Prop := fnJSONPlainRow.holds Try.pinned (OpenSpec.ofChange fnJSONPlainSpec)

/-- ITS FALSE NEIGHBOUR: 'it returns false'. Refute it at one input. -/
def fnJSONPlainWrong : ChangeSpec := { name := "fnJSONPlain", fn := fun _ => fun
  | [d1, d2] => { results := [.lit (.bool false)], args := [d1, d2] }
  | _ => none }
def FnJSONPlainWrongFalsely : Prop := fnJSONPlainRow.holds Try.pinned (OpenSpec.ofChange fnJSONPlainWrong)

/-- 'laws.FnQuotesApart': WHATEVER THE INPUT: true; the input reads as it did. -/
def fnQuotesApartSpec : ChangeSpec := { name := "fnQuotesApart", fn := fun _ => fun
  | [d1, d2, d3] => { results := [.lit (.bool true)], args := [d1, d2, d3] }
  | _ => none }
def fnQuotesApartRow : OpenClaim := { program := "ytolgpnkofnibjaa", sum := "8c51fd4a1d24a57f0e96baa950a8486eaf7de4a54a1803d1f48676640866ca77", func := "stampwheel/laws.FnQuotesApart", spec := "fnQuotesApart", apart := false }
def FnQuotesApartSaid : Prop := fnQuotesApartRow.holds Try.pinned (OpenSpec.ofChange fnQuotesApartSpec)

/-- ITS FALSE NEIGHBOUR: 'it returns false'. Refute it at one input. -/
def fnQuotesApartWrong : ChangeSpec := { name := "fnQuotesApart", fn := fun _ => fun
  | [d1, d2, d3] => { results := [.lit (.bool false)], args := [d1, d2, d3] }
  | _ => none }
def FnQuotesApartWrongFalsely : Prop := fnQuotesApartRow.holds Try.pinned (OpenSpec.ofChange fnQuotesApartWrong)

/-- 'laws.FnSingleJSON': WHATEVER THE INPUT: true; the input reads as it did. -/
def fnSingleJSONSpec : ChangeSpec := { name := "fnSingleJSON", fn := fun _ => fun
  | [d1, d2] => { results := [.lit (.bool true)], args := [d1, d2] }
  | _ => none }
def fnSingleJSONRow : OpenClaim := { program := "ytolgpnkofnibjaa", sum := "8c51fd4a1d24a57f0e96baa950a8486eaf7de4a54a1803d1f48676640866ca77", func := "stampwheel/laws.FnSingleJSON", spec := "fnSingleJSON", apart := false }
def FnSingleJSONSaid : Prop := fnSingleJSONRow.holds Try.pinned (OpenSpec.ofChange fnSingleJSONSpec)

/-- ITS FALSE NEIGHBOUR: 'it returns false'. Refute it at one input. -/
def fnSingleJSONWrong : ChangeSpec := { name := "fnSingleJSON", fn := fun _ => fun
  | [d1, d2] => { results := [.lit (.bool false)], args := [d1, d2] }
  | _ => none }
def FnSingleJSONWrongFalsely : Prop := fnSingleJSONRow.holds Try.pinned (OpenSpec.ofChange fnSingleJSONWrong)

/- THE SECOND FORM. 'bulk': how many values and letters a reading holds, each counted each time it is reached (what is shared counts as often as it is met; a slice's spare places count too). A statement '..UptoSaid' is the law's where the arguments, and the package variables that the reading takes, are together of bulk at most 1048576: NARROWER than '..Said'. Prove '..Said' where nothing that the law and all that it calls make is longer than what came in: it says more and counts as full. Else prove '..UptoSaid'. A law counts once. -/
mutual
def uptoBulk {H : Type} : DataW H → Nat
  | .lit (.string bytes) => bytes.length + 1
  | .lit _ => 1
  | .nil => 1
  | .ptr d => uptoBulk d + 1
  | .slice elems spare => uptoBulkAll elems + uptoBulkAll spare + 1
  | .agg parts => uptoBulkAll parts + 1
  | .iface _ d => uptoBulk d + 1
  | .map entries => uptoBulkEntries entries + 1
  | .held _ => 1
def uptoBulkAll {H : Type} : List (DataW H) → Nat
  | [] => 0
  | d :: r => uptoBulk d + uptoBulkAll r
def uptoBulkEntries {H : Type} : List (Lit × DataW H) → Nat
  | [] => 0
  | x :: r => uptoBulkEntry x + uptoBulkEntries r
def uptoBulkEntry {H : Type} : Lit × DataW H → Nat
  | (.string bytes, d) => bytes.length + uptoBulk d + 1
  | (_, d) => uptoBulk d + 1
 end
def uptoSmall : (H : Type) → List (DataW H) → Bool := fun _ ds => decide (uptoBulkAll ds ≤ 1048576)
def OpenSpec.upto (s : _root_.Go.ChangeSpec) : _root_.Go.OpenSpec := { _root_.Go.OpenSpec.ofChange s with cond := some uptoSmall }

/-- 'laws.FnJSON', WHERE WHAT IT READS IS OF BULK AT MOST 1048576: true; the input reads as it did. -/
def fnJSONUptoRow : OpenClaim := { program := "ytolgpnkofnibjaa", sum := "8c51fd4a1d24a57f0e96baa950a8486eaf7de4a54a1803d1f48676640866ca77", func := "stampwheel/laws.FnJSON", spec := "fnJSON", apart := false, narrowed := true }
def FnJSONUptoSaid : Prop := fnJSONUptoRow.holds Try.pinned (OpenSpec.upto fnJSONSpec)

/-- 'laws.FnJSONAscii', WHERE WHAT IT READS IS OF BULK AT MOST 1048576: true; the input reads as it did. -/
def fnJSONAsciiUptoRow : OpenClaim := { program := "ytolgpnkofnibjaa", sum := "8c51fd4a1d24a57f0e96baa950a8486eaf7de4a54a1803d1f48676640866ca77", func := "stampwheel/laws.FnJSONAscii", spec := "fnJSONAscii", apart := false, narrowed := true }
def FnJSONAsciiUptoSaid : Prop := fnJSONAsciiUptoRow.holds Try.pinned (OpenSpec.upto fnJSONAsciiSpec)

/-- 'laws.FnSingle', WHERE WHAT IT READS IS OF BULK AT MOST 1048576: true; the input reads as it did. -/
def fnSingleUptoRow : OpenClaim := { program := "ytolgpnkofnibjaa", sum := "8c51fd4a1d24a57f0e96baa950a8486eaf7de4a54a1803d1f48676640866ca77", func := "stampwheel/laws.FnSingle", spec := "fnSingle", apart := false, narrowed := true }
def FnSingleUptoSaid : Prop := fnSingleUptoRow.holds Try.pinned (OpenSpec.upto fnSingleSpec)

/-- 'laws.FnSingleAscii', WHERE WHAT IT READS IS OF BULK AT MOST 1048576: true; the input reads as it did. -/
def fnSingleAsciiUptoRow : OpenClaim := { program := "ytolgpnkofnibjaa", sum := "8c51fd4a1d24a57f0e96baa950a8486eaf7de4a54a1803d1f48676640866ca77", func := "stampwheel/laws.FnSingleAscii", spec := "fnSingleAscii", apart := false, narrowed := true }
def FnSingleAsciiUptoSaid : Prop := fnSingleAsciiUptoRow.holds Try.pinned (OpenSpec.upto fnSingleAsciiSpec)

/-- 'laws.FnJSONPlain', WHERE WHAT IT READS IS OF BULK AT MOST 1048576: true; the input reads as it did. -/
def fnJSONPlainUptoRow : OpenClaim := { program := "ytolgpnkofnibjaa", sum := "8c51fd4a1d24a57f0e96baa950a8486eaf7de4a54a1803d1f48676640866ca77", func := "stampwheel/laws.FnJSONPlain", spec := "fnJSONPlain", apart := false, narrowed := true }
def FnJSONPlainUptoSaid : Prop := fnJSONPlainUptoRow.holds Try.pinned (OpenSpec.upto fnJSONPlainSpec)

/-- 'laws.FnQuotesApart', WHERE WHAT IT READS IS OF BULK AT MOST 1048576: true; the input reads as it did. -/
def fnQuotesApartUptoRow : OpenClaim := { program := "ytolgpnkofnibjaa", sum := "8c51fd4a1d24a57f0e96baa950a8486eaf7de4a54a1803d1f48676640866ca77", func := "stampwheel/laws.FnQuotesApart", spec := "fnQuotesApart", apart := false, narrowed := true }
def FnQuotesApartUptoSaid : Prop := fnQuotesApartUptoRow.holds Try.pinned (OpenSpec.upto fnQuotesApartSpec)

/-- 'laws.FnSingleJSON', WHERE WHAT IT READS IS OF BULK AT MOST 1048576: true; the input reads as it did. -/
def fnSingleJSONUptoRow : OpenClaim := { program := "ytolgpnkofnibjaa", sum := "8c51fd4a1d24a57f0e96baa950a8486eaf7de4a54a1803d1f48676640866ca77", func := "stampwheel/laws.FnSingleJSON", spec := "fnSingleJSON", apart := false, narrowed := true }
def FnSingleJSONUptoSaid : Prop := fnSingleJSONUptoRow.holds Try.pinned (OpenSpec.upto fnSingleJSONSpec)

end Rows
end Go.Proofs.Ytolgpnkofnibjaa
