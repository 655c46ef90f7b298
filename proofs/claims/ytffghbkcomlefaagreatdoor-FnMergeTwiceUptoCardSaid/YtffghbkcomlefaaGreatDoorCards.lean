/-
  DERIVED. GIVEN WITH THE SEED: THE CARDS: each row of YtffghbkcomlefaaGreatDoorRows.lean that lists a variable, with what it lists TIED to the program's text (the seventh form; the later family's looks); each row that meets fmt, with fmt's text TOLD by the authors' own Lean function (tested against real Go, not proved from fmt's source: count such statements apart). THE CARD IS WHAT COUNTS. Prove the row's statement (the work); the ties are given (YtffghbkcomlefaaGreatDoorTie.lean); close each card by the builder's one call (the guide's Derived/Test/ToyasCard.lean, 'card_holds'). Laid BY PROGRAM, IN A SANDBOX (cutbox-door.mjs). By AI agents, Wed Nov 11 2026. No macro, syntax, notation, axiom, sorry.
-/
import Derived.Test.YtffghbkcomlefaaGreatDoorRows
import GoSem.ClaimSeven
namespace Go.Proofs.YtffghbkcomlefaaGreatDoor
namespace Rows

/-- THE TIED CARD OF 'laws.FnMergeTwice'. -/
def fnMergeTwiceCard : Claim7 := { stood := { row := fnMergeTwiceRow, standIns := [], harness := (true, "9cd26591e7d849bd2fb45b3caf9876193f98c05ab9566dc826fc19e93d458b60"), looks := false }, kinds := [], alts := [], laidByText := true, laidKinds := [.data, .data, .data, .data, .pinned, .pinned, .pinned, .pinned, .pinned, .pinned], laidTests := true, laidLooks := .later }
def FnMergeTwiceCardSaid : Prop := Claim7.holds Tryz.pinned (.plain (OpenSpec.ofChange fnMergeTwiceSpec)) fnMergeTwiceCard

/-- THE SECOND FORM's CARD OF 'laws.FnMergeTwice'. -/
def fnMergeTwiceUptoCard : Claim7 := { stood := { row := fnMergeTwiceUptoRow, standIns := [], harness := (true, "9cd26591e7d849bd2fb45b3caf9876193f98c05ab9566dc826fc19e93d458b60"), looks := false }, kinds := [], alts := [], laidByText := true, laidKinds := [.data, .data, .data, .data, .pinned, .pinned, .pinned, .pinned, .pinned, .pinned], laidTests := true, laidLooks := .later }
def FnMergeTwiceUptoCardSaid : Prop := Claim7.holds Tryz.pinned (.plain (OpenSpec.upto fnMergeTwiceSpec)) fnMergeTwiceUptoCard
end Rows
end Go.Proofs.YtffghbkcomlefaaGreatDoor
