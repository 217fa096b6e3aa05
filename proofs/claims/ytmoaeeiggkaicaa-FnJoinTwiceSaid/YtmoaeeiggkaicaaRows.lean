/-
  No cell of these rows narrows 'for every input' (looked for: loops, veiled, ifaces, maps, wideKeys, modest, calm, conditions, laid).
  DERIVED. THE GIVEN ROWS OF THIS SEAT. 4 by the template 'for every input the law returns true; each argument reads behind the call as it read before'; 0 by the template 'total and deterministic' (their statements: YtmoaeeiggkaicaaTotals.lean).
  GIVEN WITH THE SEED: the statements are not yours to turn. If you find one false, say at which input.
  Laid BY PROGRAM, IN A SANDBOX (cutbox-rows.mjs): the forced cells as the released guide's own fill.sh prints them over the translation e3f3271b01eae6c9… (all of the seat's roots in one cut). By AI agents, Wed Nov 11 2026. No macro, syntax, notation, axiom, sorry.
-/
import Derived.Test.YtmoaeeiggkaicaaChecked
import GoSem.Claim
import GoSem.ClaimJoined
import GoSem.ClaimMapViews
import Derived.JoinedTies
import Derived.KernelRfl
namespace Go.Proofs.Ytmoaeeiggkaicaa
/- THE CELL 'sum', in the pinned program and in every row, IS THE sha256 OF THE DUMP (.gsa) THAT YtmoaeeiggkaicaaProg.lean LOADS. Nothing in Lean hashes anything: it is a label: what it is worth is what the hold of that sum in a sandbox is worth. -/
noncomputable def Try.pinned : Pinned := { name := "ytmoaeeiggkaicaa", sum := "e3f3271b01eae6c9d61e126821de0acb716dea6a26983ea3e8ec58e0786cb7bc", checked := Try.checked }
namespace Rows
def none {H : Type} : Left H := { results := [], args := [] }

/-- 'laws.FnJoin': WHATEVER THE INPUT: true; the input reads as it did. -/
def fnJoinSpec : ChangeSpec := { name := "fnJoin", fn := fun _ => fun
  | [d] => { results := [.lit (.bool true)], args := [d] }
  | _ => none }
def fnJoinRow : OpenClaim := { program := "ytmoaeeiggkaicaa", sum := "e3f3271b01eae6c9d61e126821de0acb716dea6a26983ea3e8ec58e0786cb7bc", func := "stampwheel/laws.FnJoin", spec := "fnJoin", apart := false }
def FnJoinSaid : Prop := fnJoinRow.holds Try.pinned (OpenSpec.ofChange fnJoinSpec)

/-- ITS FALSE NEIGHBOUR: 'it returns false'. Refute it at one input. -/
def fnJoinWrong : ChangeSpec := { name := "fnJoin", fn := fun _ => fun
  | [d] => { results := [.lit (.bool false)], args := [d] }
  | _ => none }
def FnJoinWrongFalsely : Prop := fnJoinRow.holds Try.pinned (OpenSpec.ofChange fnJoinWrong)

/-- 'laws.FnJoinLong': WHATEVER THE INPUT: true; the input reads as it did. -/
def fnJoinLongSpec : ChangeSpec := { name := "fnJoinLong", fn := fun _ => fun
  | [d] => { results := [.lit (.bool true)], args := [d] }
  | _ => none }
def fnJoinLongRow : OpenClaim := { program := "ytmoaeeiggkaicaa", sum := "e3f3271b01eae6c9d61e126821de0acb716dea6a26983ea3e8ec58e0786cb7bc", func := "stampwheel/laws.FnJoinLong", spec := "fnJoinLong", apart := false }
def FnJoinLongSaid : Prop := fnJoinLongRow.holds Try.pinned (OpenSpec.ofChange fnJoinLongSpec)

/-- ITS FALSE NEIGHBOUR: 'it returns false'. Refute it at one input. -/
def fnJoinLongWrong : ChangeSpec := { name := "fnJoinLong", fn := fun _ => fun
  | [d] => { results := [.lit (.bool false)], args := [d] }
  | _ => none }
def FnJoinLongWrongFalsely : Prop := fnJoinLongRow.holds Try.pinned (OpenSpec.ofChange fnJoinLongWrong)

/-- 'laws.FnJoinNothing': WHATEVER THE INPUT: true; the input reads as it did. -/
def fnJoinNothingSpec : ChangeSpec := { name := "fnJoinNothing", fn := fun _ => fun
  | [d] => { results := [.lit (.bool true)], args := [d] }
  | _ => none }
def fnJoinNothingRow : OpenClaim := { program := "ytmoaeeiggkaicaa", sum := "e3f3271b01eae6c9d61e126821de0acb716dea6a26983ea3e8ec58e0786cb7bc", func := "stampwheel/laws.FnJoinNothing", spec := "fnJoinNothing", apart := false }
def FnJoinNothingSaid : Prop := fnJoinNothingRow.holds Try.pinned (OpenSpec.ofChange fnJoinNothingSpec)

/-- ITS FALSE NEIGHBOUR: 'it returns false'. Refute it at one input. -/
def fnJoinNothingWrong : ChangeSpec := { name := "fnJoinNothing", fn := fun _ => fun
  | [d] => { results := [.lit (.bool false)], args := [d] }
  | _ => none }
def FnJoinNothingWrongFalsely : Prop := fnJoinNothingRow.holds Try.pinned (OpenSpec.ofChange fnJoinNothingWrong)

/-- 'laws.FnJoinTwice': WHATEVER THE INPUT: true; the input reads as it did. -/
def fnJoinTwiceSpec : ChangeSpec := { name := "fnJoinTwice", fn := fun _ => fun
  | [d] => { results := [.lit (.bool true)], args := [d] }
  | _ => none }
def fnJoinTwiceRow : OpenClaim := { program := "ytmoaeeiggkaicaa", sum := "e3f3271b01eae6c9d61e126821de0acb716dea6a26983ea3e8ec58e0786cb7bc", func := "stampwheel/laws.FnJoinTwice", spec := "fnJoinTwice", apart := false }
def FnJoinTwiceSaid : Prop := fnJoinTwiceRow.holds Try.pinned (OpenSpec.ofChange fnJoinTwiceSpec)

/-- ITS FALSE NEIGHBOUR: 'it returns false'. Refute it at one input. -/
def fnJoinTwiceWrong : ChangeSpec := { name := "fnJoinTwice", fn := fun _ => fun
  | [d] => { results := [.lit (.bool false)], args := [d] }
  | _ => none }
def FnJoinTwiceWrongFalsely : Prop := fnJoinTwiceRow.holds Try.pinned (OpenSpec.ofChange fnJoinTwiceWrong)

/- THE SECOND FORM. 'bulk': how many values and letters a reading holds, each counted each time it is reached (what is shared counts as often as it is met; a slice's spare places count too). A statement '..UptoSaid' is the law's where the arguments, and the package variables that the reading takes, are together of bulk at most 1048576: NARROWER than '..Said'. Prove '..Said' where nothing that the law and all that it calls make is longer than what came in: it says more and counts as full. Else prove '..UptoSaid'. A law counts once. -/
mutual
def uptoBulk {H : Type} : DataW H → Nat
  | .lit (.string bytes) => bytes.length + 1
  | .lit _ => 1
  | .nil => 1
  | .ptr d => uptoBulk d + 1
  | .slice elems spare => uptoBulkAll elems + uptoBulkAll spare + 1
  | .agg parts => uptoBulkAll parts + 1
  | .iface _ d => uptoBulk d + 1
  | .map entries => uptoBulkEntries entries + 1
  | .held _ => 1
def uptoBulkAll {H : Type} : List (DataW H) → Nat
  | [] => 0
  | d :: r => uptoBulk d + uptoBulkAll r
def uptoBulkEntries {H : Type} : List (Lit × DataW H) → Nat
  | [] => 0
  | x :: r => uptoBulkEntry x + uptoBulkEntries r
def uptoBulkEntry {H : Type} : Lit × DataW H → Nat
  | (.string bytes, d) => bytes.length + uptoBulk d + 1
  | (_, d) => uptoBulk d + 1
 end
def uptoSmall : (H : Type) → List (DataW H) → Bool := fun _ ds => decide (uptoBulkAll ds ≤ 1048576)
def OpenSpec.upto (s : _root_.Go.ChangeSpec) : _root_.Go.OpenSpec := { _root_.Go.OpenSpec.ofChange s with cond := some uptoSmall }

/-- 'laws.FnJoin', WHERE WHAT IT READS IS OF BULK AT MOST 1048576: true; the input reads as it did. -/
def fnJoinUptoRow : OpenClaim := { program := "ytmoaeeiggkaicaa", sum := "e3f3271b01eae6c9d61e126821de0acb716dea6a26983ea3e8ec58e0786cb7bc", func := "stampwheel/laws.FnJoin", spec := "fnJoin", apart := false, narrowed := true }
def FnJoinUptoSaid : Prop := fnJoinUptoRow.holds Try.pinned (OpenSpec.upto fnJoinSpec)

/-- 'laws.FnJoinLong', WHERE WHAT IT READS IS OF BULK AT MOST 1048576: true; the input reads as it did. -/
def fnJoinLongUptoRow : OpenClaim := { program := "ytmoaeeiggkaicaa", sum := "e3f3271b01eae6c9d61e126821de0acb716dea6a26983ea3e8ec58e0786cb7bc", func := "stampwheel/laws.FnJoinLong", spec := "fnJoinLong", apart := false, narrowed := true }
def FnJoinLongUptoSaid : Prop := fnJoinLongUptoRow.holds Try.pinned (OpenSpec.upto fnJoinLongSpec)

/-- 'laws.FnJoinNothing', WHERE WHAT IT READS IS OF BULK AT MOST 1048576: true; the input reads as it did. -/
def fnJoinNothingUptoRow : OpenClaim := { program := "ytmoaeeiggkaicaa", sum := "e3f3271b01eae6c9d61e126821de0acb716dea6a26983ea3e8ec58e0786cb7bc", func := "stampwheel/laws.FnJoinNothing", spec := "fnJoinNothing", apart := false, narrowed := true }
def FnJoinNothingUptoSaid : Prop := fnJoinNothingUptoRow.holds Try.pinned (OpenSpec.upto fnJoinNothingSpec)

/-- 'laws.FnJoinTwice', WHERE WHAT IT READS IS OF BULK AT MOST 1048576: true; the input reads as it did. -/
def fnJoinTwiceUptoRow : OpenClaim := { program := "ytmoaeeiggkaicaa", sum := "e3f3271b01eae6c9d61e126821de0acb716dea6a26983ea3e8ec58e0786cb7bc", func := "stampwheel/laws.FnJoinTwice", spec := "fnJoinTwice", apart := false, narrowed := true }
def FnJoinTwiceUptoSaid : Prop := fnJoinTwiceUptoRow.holds Try.pinned (OpenSpec.upto fnJoinTwiceSpec)

end Rows
end Go.Proofs.Ytmoaeeiggkaicaa
