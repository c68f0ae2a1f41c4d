/-
  DERIVED. GIVEN WITH THE SEED: THE CARDS: each row of YtjhnnjhaklohhaaGreatDoorRows.lean that lists a variable, with what it lists TIED to the program's text (the seventh form; the later family's looks); each row that meets fmt, with fmt's text TOLD by the authors' own Lean function (tested against real Go, not proved from fmt's source: count such statements apart). THE CARD IS WHAT COUNTS. Prove the row's statement (the work); the ties are given (YtjhnnjhaklohhaaGreatDoorTie.lean); close each card by the builder's one call (the guide's Derived/Test/ToyasCard.lean, 'card_holds'). Laid BY PROGRAM, IN A SANDBOX (cutbox-door.mjs). By AI agents, Wed Nov 11 2026. No macro, syntax, notation, axiom, sorry.
-/
import Derived.Test.YtjhnnjhaklohhaaGreatDoorRows
import GoSem.ClaimSeven
namespace Go.Proofs.YtjhnnjhaklohhaaGreatDoor
namespace Rows

/-- THE TIED CARD OF 'laws.FnChain'. -/
def fnChainCard : Claim7 := { stood := { row := fnChainRow, standIns := [], harness := (true, "eaa69347d5ce1deca11cebebd0cffbaa9a9e9d153fa4b62ad8d7ea5271b0d256"), looks := true }, kinds := [], alts := [], laidByText := true, laidKinds := [.data], laidTests := true, laidLooks := .later }
def FnChainCardSaid : Prop := Claim7.holds Tryz.pinned (.plain (OpenSpec.ofChange fnChainSpec)) fnChainCard

/-- THE TIED CARD OF 'laws.FnForged'. -/
def fnForgedCard : Claim7 := { stood := { row := fnForgedRow, standIns := [], harness := (true, "eaa69347d5ce1deca11cebebd0cffbaa9a9e9d153fa4b62ad8d7ea5271b0d256"), looks := true }, kinds := [], alts := [], laidByText := true, laidKinds := [.data], laidTests := true, laidLooks := .later }
def FnForgedCardSaid : Prop := Claim7.holds Tryz.pinned (.plain (OpenSpec.ofChange fnForgedSpec)) fnForgedCard

/-- THE SECOND FORM's CARD OF 'laws.FnChain'. -/
def fnChainUptoCard : Claim7 := { stood := { row := fnChainUptoRow, standIns := [], harness := (true, "eaa69347d5ce1deca11cebebd0cffbaa9a9e9d153fa4b62ad8d7ea5271b0d256"), looks := true }, kinds := [], alts := [], laidByText := true, laidKinds := [.data], laidTests := true, laidLooks := .later }
def FnChainUptoCardSaid : Prop := Claim7.holds Tryz.pinned (.plain (OpenSpec.upto fnChainSpec)) fnChainUptoCard

/-- THE SECOND FORM's CARD OF 'laws.FnForged'. -/
def fnForgedUptoCard : Claim7 := { stood := { row := fnForgedUptoRow, standIns := [], harness := (true, "eaa69347d5ce1deca11cebebd0cffbaa9a9e9d153fa4b62ad8d7ea5271b0d256"), looks := true }, kinds := [], alts := [], laidByText := true, laidKinds := [.data], laidTests := true, laidLooks := .later }
def FnForgedUptoCardSaid : Prop := Claim7.holds Tryz.pinned (.plain (OpenSpec.upto fnForgedSpec)) fnForgedUptoCard
end Rows
end Go.Proofs.YtjhnnjhaklohhaaGreatDoor
