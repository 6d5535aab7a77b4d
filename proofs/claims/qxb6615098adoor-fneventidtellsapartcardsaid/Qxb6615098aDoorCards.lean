/-
  DERIVED. GIVEN WITH THE SEED: THE CARDS: each row of Qxb6615098aDoorRows.lean that lists a variable, with what it lists TIED to the program's text (the seventh form; the later family's looks); each row that meets fmt, with fmt's text TOLD by the authors' own Lean function (tested against real Go, not proved from fmt's source: count such statements apart). THE CARD IS WHAT COUNTS. Prove the row's statement (the work); the ties are given (Qxb6615098aDoorTie.lean); close each card by the builder's one call (the guide's Derived/Test/ToyasCard.lean, 'card_holds'). Laid BY PROGRAM, IN A SANDBOX (cutbox-door.mjs). By AI agents, Wed Nov 11 2026. No macro, syntax, notation, axiom, sorry.
-/
import Derived.Test.Qxb6615098aDoorRows
import GoSem.ClaimSeven
namespace Go.Proofs.Qxb6615098aDoor
namespace Rows

/-- THE TIED CARD OF 'zzlaws_queue_b1.FnEventIDDecimalTail'. -/
def fnEventIDDecimalTailCard : Claim7 := { stood := { row := fnEventIDDecimalTailRow, standIns := [], harness := (true, "8dc4d0f467237ee5add76fabb008906f8e6217157e1cb44f42537abe82e89084"), looks := false }, kinds := [], alts := [], laidByText := true, laidKinds := [.data, .data, .data], laidTests := true, laidLooks := .later }
def FnEventIDDecimalTailCardSaid : Prop := Claim7.holds Tryd.pinned (.plain (OpenSpec.ofChange fnEventIDDecimalTailSpec)) fnEventIDDecimalTailCard

/-- THE TIED CARD OF 'zzlaws_queue_b1.FnEventIDTellsApart'. -/
def fnEventIDTellsApartCard : Claim7 := { stood := { row := fnEventIDTellsApartRow, standIns := [], harness := (true, "8dc4d0f467237ee5add76fabb008906f8e6217157e1cb44f42537abe82e89084"), looks := false }, kinds := [], alts := [], laidByText := true, laidKinds := [.data, .data, .data], laidTests := true, laidLooks := .later }
def FnEventIDTellsApartCardSaid : Prop := Claim7.holds Tryd.pinned (.plain (OpenSpec.ofChange fnEventIDTellsApartSpec)) fnEventIDTellsApartCard
end Rows
end Go.Proofs.Qxb6615098aDoor
