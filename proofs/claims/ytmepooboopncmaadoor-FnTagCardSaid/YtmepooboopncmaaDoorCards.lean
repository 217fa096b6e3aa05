/-
  DERIVED. GIVEN WITH THE SEED: THE CARDS: each row of YtmepooboopncmaaDoorRows.lean that lists a variable, with what it lists TIED to the program's text (the seventh form; the later family's looks); each row that meets fmt, with fmt's text TOLD by the authors' own Lean function (tested against real Go, not proved from fmt's source: count such statements apart). THE CARD IS WHAT COUNTS. Prove the row's statement (the work); the ties are given (YtmepooboopncmaaDoorTie.lean); close each card by the builder's one call (the guide's Derived/Test/ToyasCard.lean, 'card_holds'). Laid BY PROGRAM, IN A SANDBOX (cutbox-door.mjs). By AI agents, Wed Nov 11 2026. No macro, syntax, notation, axiom, sorry.
-/
import Derived.Test.YtmepooboopncmaaDoorRows
import GoSem.ClaimSeven
namespace Go.Proofs.YtmepooboopncmaaDoor
namespace Rows

/-- THE TIED CARD OF 'laws.FnModules'. -/
def fnModulesCard : Claim7 := { stood := { row := fnModulesRow, standIns := [], harness := (true, "3ba0ae672065ae9279e3058ab01eae2da976472b0cda6b3305111790ca153dc9"), looks := false }, kinds := [], alts := [], laidByText := true, laidKinds := [.data, .pinned], laidTests := true, laidLooks := .later }
def FnModulesCardSaid : Prop := Claim7.holds Tryd.pinned (.plain (OpenSpec.ofChange fnModulesSpec)) fnModulesCard

/-- THE TIED CARD OF 'laws.FnTag'. -/
def fnTagCard : Claim7 := { stood := { row := fnTagRow, standIns := [], harness := (true, "3ba0ae672065ae9279e3058ab01eae2da976472b0cda6b3305111790ca153dc9"), looks := false }, kinds := [], alts := [], laidByText := true, laidKinds := [.data, .data, .data, .pinned, .pinned], laidTests := true, laidLooks := .later }
def FnTagCardSaid : Prop := Claim7.holds Tryd.pinned (.plain (OpenSpec.ofChange fnTagSpec)) fnTagCard

/-- THE TIED CARD OF 'laws.FnTagGone'. -/
def fnTagGoneCard : Claim7 := { stood := { row := fnTagGoneRow, standIns := [], harness := (true, "3ba0ae672065ae9279e3058ab01eae2da976472b0cda6b3305111790ca153dc9"), looks := false }, kinds := [], alts := [], laidByText := true, laidKinds := [.data, .data, .data, .pinned, .pinned], laidTests := true, laidLooks := .later }
def FnTagGoneCardSaid : Prop := Claim7.holds Tryd.pinned (.plain (OpenSpec.ofChange fnTagGoneSpec)) fnTagGoneCard

/-- THE SECOND FORM's CARD OF 'laws.FnModules'. -/
def fnModulesUptoCard : Claim7 := { stood := { row := fnModulesUptoRow, standIns := [], harness := (true, "3ba0ae672065ae9279e3058ab01eae2da976472b0cda6b3305111790ca153dc9"), looks := false }, kinds := [], alts := [], laidByText := true, laidKinds := [.data, .pinned], laidTests := true, laidLooks := .later }
def FnModulesUptoCardSaid : Prop := Claim7.holds Tryd.pinned (.plain (OpenSpec.upto fnModulesSpec)) fnModulesUptoCard

/-- THE SECOND FORM's CARD OF 'laws.FnTag'. -/
def fnTagUptoCard : Claim7 := { stood := { row := fnTagUptoRow, standIns := [], harness := (true, "3ba0ae672065ae9279e3058ab01eae2da976472b0cda6b3305111790ca153dc9"), looks := false }, kinds := [], alts := [], laidByText := true, laidKinds := [.data, .data, .data, .pinned, .pinned], laidTests := true, laidLooks := .later }
def FnTagUptoCardSaid : Prop := Claim7.holds Tryd.pinned (.plain (OpenSpec.upto fnTagSpec)) fnTagUptoCard

/-- THE SECOND FORM's CARD OF 'laws.FnTagGone'. -/
def fnTagGoneUptoCard : Claim7 := { stood := { row := fnTagGoneUptoRow, standIns := [], harness := (true, "3ba0ae672065ae9279e3058ab01eae2da976472b0cda6b3305111790ca153dc9"), looks := false }, kinds := [], alts := [], laidByText := true, laidKinds := [.data, .data, .data, .pinned, .pinned], laidTests := true, laidLooks := .later }
def FnTagGoneUptoCardSaid : Prop := Claim7.holds Tryd.pinned (.plain (OpenSpec.upto fnTagGoneSpec)) fnTagGoneUptoCard
end Rows
end Go.Proofs.YtmepooboopncmaaDoor
