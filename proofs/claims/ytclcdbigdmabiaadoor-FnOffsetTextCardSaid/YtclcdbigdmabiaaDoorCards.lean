/-
  DERIVED. GIVEN WITH THE SEED: THE CARDS: each row of YtclcdbigdmabiaaDoorRows.lean that lists a variable, with what it lists TIED to the program's text (the seventh form; the later family's looks); each row that meets fmt, with fmt's text TOLD by the authors' own Lean function (tested against real Go, not proved from fmt's source: count such statements apart). THE CARD IS WHAT COUNTS. Prove the row's statement (the work); the ties are given (YtclcdbigdmabiaaDoorTie.lean); close each card by the builder's one call (the guide's Derived/Test/ToyasCard.lean, 'card_holds'). Laid BY PROGRAM, IN A SANDBOX (cutbox-door.mjs). By AI agents, Wed Nov 11 2026. No macro, syntax, notation, axiom, sorry.
-/
import Derived.Test.YtclcdbigdmabiaaDoorRows
import GoSem.ClaimSeven
namespace Go.Proofs.YtclcdbigdmabiaaDoor
namespace Rows

/-- THE TIED CARD OF 'laws.FnSimmText'. -/
def fnSimmTextCard : Claim7 := { stood := { row := fnSimmTextRow, standIns := [], harness := (true, "fb8df768ba901b08d16e08a86f4be844bd035d1c3272a56d6d02cd7f0706ed52"), looks := false }, kinds := [], alts := [], laidByText := true, laidKinds := [.data, .data, .data], laidTests := true, laidLooks := .later }
def FnSimmTextCardSaid : Prop := Claim7.holds Tryd.pinned (.plain (OpenSpec.ofChange fnSimmTextSpec)) fnSimmTextCard

/-- THE TIED CARD OF 'laws.FnRegText'. -/
def fnRegTextCard : Claim7 := { stood := { row := fnRegTextRow, standIns := [], harness := (true, "fb8df768ba901b08d16e08a86f4be844bd035d1c3272a56d6d02cd7f0706ed52"), looks := false }, kinds := [], alts := [], laidByText := true, laidKinds := [.data, .data, .data], laidTests := true, laidLooks := .later }
def FnRegTextCardSaid : Prop := Claim7.holds Tryd.pinned (.plain (OpenSpec.ofChange fnRegTextSpec)) fnRegTextCard

/-- THE TIED CARD OF 'laws.FnOffsetText'. -/
def fnOffsetTextCard : Claim7 := { stood := { row := fnOffsetTextRow, standIns := [], harness := (true, "fb8df768ba901b08d16e08a86f4be844bd035d1c3272a56d6d02cd7f0706ed52"), looks := false }, kinds := [], alts := [], laidByText := true, laidKinds := [.data, .data, .data], laidTests := true, laidLooks := .later }
def FnOffsetTextCardSaid : Prop := Claim7.holds Tryd.pinned (.plain (OpenSpec.ofChange fnOffsetTextSpec)) fnOffsetTextCard

/-- THE SECOND FORM's CARD OF 'laws.FnSimmText'. -/
def fnSimmTextUptoCard : Claim7 := { stood := { row := fnSimmTextUptoRow, standIns := [], harness := (true, "fb8df768ba901b08d16e08a86f4be844bd035d1c3272a56d6d02cd7f0706ed52"), looks := false }, kinds := [], alts := [], laidByText := true, laidKinds := [.data, .data, .data], laidTests := true, laidLooks := .later }
def FnSimmTextUptoCardSaid : Prop := Claim7.holds Tryd.pinned (.plain (OpenSpec.upto fnSimmTextSpec)) fnSimmTextUptoCard

/-- THE SECOND FORM's CARD OF 'laws.FnRegText'. -/
def fnRegTextUptoCard : Claim7 := { stood := { row := fnRegTextUptoRow, standIns := [], harness := (true, "fb8df768ba901b08d16e08a86f4be844bd035d1c3272a56d6d02cd7f0706ed52"), looks := false }, kinds := [], alts := [], laidByText := true, laidKinds := [.data, .data, .data], laidTests := true, laidLooks := .later }
def FnRegTextUptoCardSaid : Prop := Claim7.holds Tryd.pinned (.plain (OpenSpec.upto fnRegTextSpec)) fnRegTextUptoCard

/-- THE SECOND FORM's CARD OF 'laws.FnOffsetText'. -/
def fnOffsetTextUptoCard : Claim7 := { stood := { row := fnOffsetTextUptoRow, standIns := [], harness := (true, "fb8df768ba901b08d16e08a86f4be844bd035d1c3272a56d6d02cd7f0706ed52"), looks := false }, kinds := [], alts := [], laidByText := true, laidKinds := [.data, .data, .data], laidTests := true, laidLooks := .later }
def FnOffsetTextUptoCardSaid : Prop := Claim7.holds Tryd.pinned (.plain (OpenSpec.upto fnOffsetTextSpec)) fnOffsetTextUptoCard
end Rows
end Go.Proofs.YtclcdbigdmabiaaDoor
