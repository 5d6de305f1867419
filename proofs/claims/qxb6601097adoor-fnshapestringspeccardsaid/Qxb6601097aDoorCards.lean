/-
  DERIVED. GIVEN WITH THE SEED: THE CARDS: each row of Qxb6601097aDoorRows.lean that lists a variable, with what it lists TIED to the program's text (the seventh form; the later family's looks); each row that meets fmt, with fmt's text TOLD by the authors' own Lean function (tested against real Go, not proved from fmt's source: count such statements apart). THE CARD IS WHAT COUNTS. Prove the row's statement (the work); the ties are given (Qxb6601097aDoorTie.lean); close each card by the builder's one call (the guide's Derived/Test/ToyasCard.lean, 'card_holds'). Laid BY PROGRAM, IN A SANDBOX (cutbox-door.mjs). By AI agents, Wed Nov 11 2026. No macro, syntax, notation, axiom, sorry.
-/
import Derived.Test.Qxb6601097aDoorRows
import GoSem.ClaimSeven
namespace Go.Proofs.Qxb6601097aDoor
namespace Rows

/-- THE TIED CARD OF 'zzlaws_internal_npy_b1.FnShapeStringSpec'. -/
def fnShapeStringSpecCard : Claim7 := { stood := { row := fnShapeStringSpecRow, standIns := [], harness := (true, "9d303a3641b0bb9944c484219ef98e6b14d32eacf7e3434d0bd8e769ee96ee06"), looks := true }, kinds := [], alts := [], laidByText := true, laidKinds := [.data, .data, .data], laidTests := true, laidLooks := .later }
def FnShapeStringSpecCardSaid : Prop := Claim7.holds Tryd.pinned (.plain (OpenSpec.ofChange fnShapeStringSpecSpec)) fnShapeStringSpecCard

/-- THE TIED CARD OF 'zzlaws_internal_npy_b1.FnShapeStringTupleRoundTrip'. -/
def fnShapeStringTupleRoundTripCard : Claim7 := { stood := { row := fnShapeStringTupleRoundTripRow, standIns := [], harness := (true, "9d303a3641b0bb9944c484219ef98e6b14d32eacf7e3434d0bd8e769ee96ee06"), looks := true }, kinds := [], alts := [], laidByText := true, laidKinds := [.data, .data, .data, .sentinel, .sentinel], laidTests := true, laidLooks := .later }
def FnShapeStringTupleRoundTripCardSaid : Prop := Claim7.holds Tryd.pinned (.plain (OpenSpec.ofChange fnShapeStringTupleRoundTripSpec)) fnShapeStringTupleRoundTripCard

/-- THE TIED CARD OF 'zzlaws_internal_npy_b1.FnShapeStringInjective'. -/
def fnShapeStringInjectiveCard : Claim7 := { stood := { row := fnShapeStringInjectiveRow, standIns := [], harness := (true, "9d303a3641b0bb9944c484219ef98e6b14d32eacf7e3434d0bd8e769ee96ee06"), looks := true }, kinds := [], alts := [], laidByText := true, laidKinds := [.data, .data, .data], laidTests := true, laidLooks := .later }
def FnShapeStringInjectiveCardSaid : Prop := Claim7.holds Tryd.pinned (.plain (OpenSpec.ofChange fnShapeStringInjectiveSpec)) fnShapeStringInjectiveCard

/-- THE TIED CARD OF 'zzlaws_internal_npy_b1.FnTupleSpec'. -/
def fnTupleSpecCard : Claim7 := { stood := { row := fnTupleSpecRow, standIns := [], harness := (true, "9d303a3641b0bb9944c484219ef98e6b14d32eacf7e3434d0bd8e769ee96ee06"), looks := true }, kinds := [], alts := [], laidByText := true, laidKinds := [.data, .data, .data, .sentinel, .sentinel], laidTests := true, laidLooks := .later }
def FnTupleSpecCardSaid : Prop := Claim7.holds Tryd.pinned (.plain (OpenSpec.ofChange fnTupleSpecSpec)) fnTupleSpecCard

/-- THE TIED CARD OF 'zzlaws_internal_npy_b1.FnTupleLocal'. -/
def fnTupleLocalCard : Claim7 := { stood := { row := fnTupleLocalRow, standIns := [], harness := (true, "9d303a3641b0bb9944c484219ef98e6b14d32eacf7e3434d0bd8e769ee96ee06"), looks := true }, kinds := [], alts := [], laidByText := true, laidKinds := [.data, .data, .data, .sentinel, .sentinel], laidTests := true, laidLooks := .later }
def FnTupleLocalCardSaid : Prop := Claim7.holds Tryd.pinned (.plain (OpenSpec.ofChange fnTupleLocalSpec)) fnTupleLocalCard
end Rows
end Go.Proofs.Qxb6601097aDoor
