/-
  DERIVED. GIVEN WITH THE SEED: THE CARDS: each row of YtfkaldaflnmfiaaGreatDoorRows.lean that lists a variable, with what it lists TIED to the program's text (the seventh form; the later family's looks); each row that meets fmt, with fmt's text TOLD by the authors' own Lean function (tested against real Go, not proved from fmt's source: count such statements apart). THE CARD IS WHAT COUNTS. Prove the row's statement (the work); the ties are given (YtfkaldaflnmfiaaGreatDoorTie.lean); close each card by the builder's one call (the guide's Derived/Test/ToyasCard.lean, 'card_holds'). Laid BY PROGRAM, IN A SANDBOX (cutbox-door.mjs). By AI agents, Wed Nov 11 2026. No macro, syntax, notation, axiom, sorry.
-/
import Derived.Test.YtfkaldaflnmfiaaGreatDoorRows
import GoSem.ClaimSeven
namespace Go.Proofs.YtfkaldaflnmfiaaGreatDoor
namespace Rows

/-- THE TIED CARD OF 'laws.FnEviGuilty'. -/
def fnEviGuiltyCard : Claim7 := { stood := { row := fnEviGuiltyRow, standIns := [], harness := (true, "b97b56036eccc54cb707fb2fe7ad094b7b613a8b3f0866c17adff10b8b7cc7de"), looks := false }, kinds := [], alts := [], laidByText := true, laidKinds := [.data, .sentinel, .sentinel, .sentinel, .sentinel, .sentinel, .sentinel, .sentinel, .sentinel], laidTests := true, laidLooks := .later }
def FnEviGuiltyCardSaid : Prop := Claim7.holds Tryz.pinned (.plain (OpenSpec.ofChange fnEviGuiltySpec)) fnEviGuiltyCard

/-- THE TIED CARD OF 'laws.FnEviMade'. -/
def fnEviMadeCard : Claim7 := { stood := { row := fnEviMadeRow, standIns := [], harness := (true, "b97b56036eccc54cb707fb2fe7ad094b7b613a8b3f0866c17adff10b8b7cc7de"), looks := false }, kinds := [], alts := [], laidByText := true, laidKinds := [.data, .sentinel, .sentinel, .sentinel, .sentinel, .sentinel, .sentinel, .sentinel, .sentinel, .sentinel], laidTests := true, laidLooks := .later }
def FnEviMadeCardSaid : Prop := Claim7.holds Tryz.pinned (.plain (OpenSpec.ofChange fnEviMadeSpec)) fnEviMadeCard

/-- THE SECOND FORM's CARD OF 'laws.FnEviGuilty'. -/
def fnEviGuiltyUptoCard : Claim7 := { stood := { row := fnEviGuiltyUptoRow, standIns := [], harness := (true, "b97b56036eccc54cb707fb2fe7ad094b7b613a8b3f0866c17adff10b8b7cc7de"), looks := false }, kinds := [], alts := [], laidByText := true, laidKinds := [.data, .sentinel, .sentinel, .sentinel, .sentinel, .sentinel, .sentinel, .sentinel, .sentinel], laidTests := true, laidLooks := .later }
def FnEviGuiltyUptoCardSaid : Prop := Claim7.holds Tryz.pinned (.plain (OpenSpec.upto fnEviGuiltySpec)) fnEviGuiltyUptoCard

/-- THE SECOND FORM's CARD OF 'laws.FnEviMade'. -/
def fnEviMadeUptoCard : Claim7 := { stood := { row := fnEviMadeUptoRow, standIns := [], harness := (true, "b97b56036eccc54cb707fb2fe7ad094b7b613a8b3f0866c17adff10b8b7cc7de"), looks := false }, kinds := [], alts := [], laidByText := true, laidKinds := [.data, .sentinel, .sentinel, .sentinel, .sentinel, .sentinel, .sentinel, .sentinel, .sentinel, .sentinel], laidTests := true, laidLooks := .later }
def FnEviMadeUptoCardSaid : Prop := Claim7.holds Tryz.pinned (.plain (OpenSpec.upto fnEviMadeSpec)) fnEviMadeUptoCard
end Rows
end Go.Proofs.YtfkaldaflnmfiaaGreatDoor
