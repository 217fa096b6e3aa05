/-
  DERIVED. GIVEN WITH THE SEED: THE CARDS: each row of YtjinfkhnijokmaaDoorRows.lean that lists a variable, with what it lists TIED to the program's text (the seventh form; the later family's looks); each row that meets fmt, with fmt's text TOLD by the authors' own Lean function (tested against real Go, not proved from fmt's source: count such statements apart). THE CARD IS WHAT COUNTS. Prove the row's statement (the work); the ties are given (YtjinfkhnijokmaaDoorTie.lean); close each card by the builder's one call (the guide's Derived/Test/ToyasCard.lean, 'card_holds'). Laid BY PROGRAM, IN A SANDBOX (cutbox-door.mjs). By AI agents, Wed Nov 11 2026. No macro, syntax, notation, axiom, sorry.
-/
import Derived.Test.YtjinfkhnijokmaaDoorRows
import GoSem.ClaimSeven
namespace Go.Proofs.YtjinfkhnijokmaaDoor
namespace Rows

/-- THE TIED CARD OF 'laws.FnPercent'. -/
def fnPercentCard : Claim7 := { stood := { row := fnPercentRow, standIns := [], harness := (true, "6d7cd08a7720b1146eb4336eb3f5af3cdb8314426130f8b0c70f5e4c5f76f95b"), looks := false }, kinds := [], alts := [], laidByText := true, laidKinds := [.data, .pinned], laidTests := true, laidLooks := .later }
def FnPercentCardSaid : Prop := Claim7.holds Tryd.pinned (.plain (OpenSpec.ofChange fnPercentSpec)) fnPercentCard

/-- THE TIED CARD OF 'laws.FnPercentClean'. -/
def fnPercentCleanCard : Claim7 := { stood := { row := fnPercentCleanRow, standIns := [], harness := (true, "6d7cd08a7720b1146eb4336eb3f5af3cdb8314426130f8b0c70f5e4c5f76f95b"), looks := false }, kinds := [], alts := [], laidByText := true, laidKinds := [.data, .pinned], laidTests := true, laidLooks := .later }
def FnPercentCleanCardSaid : Prop := Claim7.holds Tryd.pinned (.plain (OpenSpec.ofChange fnPercentCleanSpec)) fnPercentCleanCard

/-- THE TIED CARD OF 'laws.FnPercentValid'. -/
def fnPercentValidCard : Claim7 := { stood := { row := fnPercentValidRow, standIns := [], harness := (true, "6d7cd08a7720b1146eb4336eb3f5af3cdb8314426130f8b0c70f5e4c5f76f95b"), looks := false }, kinds := [], alts := [], laidByText := true, laidKinds := [.data, .pinned], laidTests := true, laidLooks := .later }
def FnPercentValidCardSaid : Prop := Claim7.holds Tryd.pinned (.plain (OpenSpec.ofChange fnPercentValidSpec)) fnPercentValidCard

/-- THE SECOND FORM's CARD OF 'laws.FnPercent'. -/
def fnPercentUptoCard : Claim7 := { stood := { row := fnPercentUptoRow, standIns := [], harness := (true, "6d7cd08a7720b1146eb4336eb3f5af3cdb8314426130f8b0c70f5e4c5f76f95b"), looks := false }, kinds := [], alts := [], laidByText := true, laidKinds := [.data, .pinned], laidTests := true, laidLooks := .later }
def FnPercentUptoCardSaid : Prop := Claim7.holds Tryd.pinned (.plain (OpenSpec.upto fnPercentSpec)) fnPercentUptoCard

/-- THE SECOND FORM's CARD OF 'laws.FnPercentClean'. -/
def fnPercentCleanUptoCard : Claim7 := { stood := { row := fnPercentCleanUptoRow, standIns := [], harness := (true, "6d7cd08a7720b1146eb4336eb3f5af3cdb8314426130f8b0c70f5e4c5f76f95b"), looks := false }, kinds := [], alts := [], laidByText := true, laidKinds := [.data, .pinned], laidTests := true, laidLooks := .later }
def FnPercentCleanUptoCardSaid : Prop := Claim7.holds Tryd.pinned (.plain (OpenSpec.upto fnPercentCleanSpec)) fnPercentCleanUptoCard

/-- THE SECOND FORM's CARD OF 'laws.FnPercentValid'. -/
def fnPercentValidUptoCard : Claim7 := { stood := { row := fnPercentValidUptoRow, standIns := [], harness := (true, "6d7cd08a7720b1146eb4336eb3f5af3cdb8314426130f8b0c70f5e4c5f76f95b"), looks := false }, kinds := [], alts := [], laidByText := true, laidKinds := [.data, .pinned], laidTests := true, laidLooks := .later }
def FnPercentValidUptoCardSaid : Prop := Claim7.holds Tryd.pinned (.plain (OpenSpec.upto fnPercentValidSpec)) fnPercentValidUptoCard
end Rows
end Go.Proofs.YtjinfkhnijokmaaDoor
