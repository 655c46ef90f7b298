/-
  DERIVED. GIVEN WITH THE SEED: THE CARDS: each row of YtifdadlhmlhfiaaGreatDoorRows.lean that lists a variable, with what it lists TIED to the program's text (the seventh form; the later family's looks); each row that meets fmt, with fmt's text TOLD by the authors' own Lean function (tested against real Go, not proved from fmt's source: count such statements apart). THE CARD IS WHAT COUNTS. Prove the row's statement (the work); the ties are given (YtifdadlhmlhfiaaGreatDoorTie.lean); close each card by the builder's one call (the guide's Derived/Test/ToyasCard.lean, 'card_holds'). Laid BY PROGRAM, IN A SANDBOX (cutbox-door.mjs). By AI agents, Wed Nov 11 2026. No macro, syntax, notation, axiom, sorry.
-/
import Derived.Test.YtifdadlhmlhfiaaGreatDoorRows
import GoSem.ClaimSeven
namespace Go.Proofs.YtifdadlhmlhfiaaGreatDoor
namespace Rows

/-- THE TIED CARD OF 'laws.FnRead'. -/
def fnReadCard : Claim7 := { stood := { row := fnReadRow, standIns := [], harness := (true, "eedc2d16a8e8f905d46dbbffc953d98e71e809c7d595a94d4c44dd7cff74865b"), looks := true }, kinds := [], alts := [], laidByText := true, laidKinds := [.data, .data, .data, .sentinel, .sentinel], laidTests := true, laidLooks := .later }
def FnReadCardSaid : Prop := Claim7.holds Tryz.pinned (.plain (OpenSpec.ofChange fnReadSpec)) fnReadCard

/-- THE TIED CARD OF 'laws.FnCopy'. -/
def fnCopyCard : Claim7 := { stood := { row := fnCopyRow, standIns := [], harness := (true, "eedc2d16a8e8f905d46dbbffc953d98e71e809c7d595a94d4c44dd7cff74865b"), looks := true }, kinds := [], alts := [], laidByText := true, laidKinds := [.data, .data, .data, .sentinel], laidTests := true, laidLooks := .later }
def FnCopyCardSaid : Prop := Claim7.holds Tryz.pinned (.plain (OpenSpec.ofChange fnCopySpec)) fnCopyCard

/-- THE TIED CARD OF 'laws.FnRoad'. -/
def fnRoadCard : Claim7 := { stood := { row := fnRoadRow, standIns := [], harness := (true, "eedc2d16a8e8f905d46dbbffc953d98e71e809c7d595a94d4c44dd7cff74865b"), looks := true }, kinds := [], alts := [], laidByText := true, laidKinds := [.data, .data, .data, .sentinel, .sentinel], laidTests := true, laidLooks := .later }
def FnRoadCardSaid : Prop := Claim7.holds Tryz.pinned (.plain (OpenSpec.ofChange fnRoadSpec)) fnRoadCard

/-- THE TIED CARD OF 'laws.FnExactJoin'. -/
def fnExactJoinCard : Claim7 := { stood := { row := fnExactJoinRow, standIns := [], harness := (true, "eedc2d16a8e8f905d46dbbffc953d98e71e809c7d595a94d4c44dd7cff74865b"), looks := true }, kinds := [], alts := [], laidByText := true, laidKinds := [.data, .data, .data, .sentinel], laidTests := true, laidLooks := .later }
def FnExactJoinCardSaid : Prop := Claim7.holds Tryz.pinned (.plain (OpenSpec.ofChange fnExactJoinSpec)) fnExactJoinCard

/-- THE SECOND FORM's CARD OF 'laws.FnRead'. -/
def fnReadUptoCard : Claim7 := { stood := { row := fnReadUptoRow, standIns := [], harness := (true, "eedc2d16a8e8f905d46dbbffc953d98e71e809c7d595a94d4c44dd7cff74865b"), looks := true }, kinds := [], alts := [], laidByText := true, laidKinds := [.data, .data, .data, .sentinel, .sentinel], laidTests := true, laidLooks := .later }
def FnReadUptoCardSaid : Prop := Claim7.holds Tryz.pinned (.plain (OpenSpec.upto fnReadSpec)) fnReadUptoCard

/-- THE SECOND FORM's CARD OF 'laws.FnCopy'. -/
def fnCopyUptoCard : Claim7 := { stood := { row := fnCopyUptoRow, standIns := [], harness := (true, "eedc2d16a8e8f905d46dbbffc953d98e71e809c7d595a94d4c44dd7cff74865b"), looks := true }, kinds := [], alts := [], laidByText := true, laidKinds := [.data, .data, .data, .sentinel], laidTests := true, laidLooks := .later }
def FnCopyUptoCardSaid : Prop := Claim7.holds Tryz.pinned (.plain (OpenSpec.upto fnCopySpec)) fnCopyUptoCard

/-- THE SECOND FORM's CARD OF 'laws.FnRoad'. -/
def fnRoadUptoCard : Claim7 := { stood := { row := fnRoadUptoRow, standIns := [], harness := (true, "eedc2d16a8e8f905d46dbbffc953d98e71e809c7d595a94d4c44dd7cff74865b"), looks := true }, kinds := [], alts := [], laidByText := true, laidKinds := [.data, .data, .data, .sentinel, .sentinel], laidTests := true, laidLooks := .later }
def FnRoadUptoCardSaid : Prop := Claim7.holds Tryz.pinned (.plain (OpenSpec.upto fnRoadSpec)) fnRoadUptoCard

/-- THE SECOND FORM's CARD OF 'laws.FnExactJoin'. -/
def fnExactJoinUptoCard : Claim7 := { stood := { row := fnExactJoinUptoRow, standIns := [], harness := (true, "eedc2d16a8e8f905d46dbbffc953d98e71e809c7d595a94d4c44dd7cff74865b"), looks := true }, kinds := [], alts := [], laidByText := true, laidKinds := [.data, .data, .data, .sentinel], laidTests := true, laidLooks := .later }
def FnExactJoinUptoCardSaid : Prop := Claim7.holds Tryz.pinned (.plain (OpenSpec.upto fnExactJoinSpec)) fnExactJoinUptoCard
end Rows
end Go.Proofs.YtifdadlhmlhfiaaGreatDoor
