/-
  DERIVED. GIVEN WITH THE SEED: THE CARDS: each row of YoeeiwDoorRows.lean that lists a variable, with what it lists TIED to the program's text (the seventh form; the later family's looks); each row that meets fmt, with fmt's text TOLD by the authors' own Lean function (tested against real Go, not proved from fmt's source: count such statements apart). THE CARD IS WHAT COUNTS. Prove the row's statement (the work); the ties are given (YoeeiwDoorTie.lean); close each card by the builder's one call (the guide's Derived/Test/ToyasCard.lean, 'card_holds'). Laid BY PROGRAM, IN A SANDBOX (cutbox-door.mjs). By AI agents, Wed Nov 11 2026. No macro, syntax, notation, axiom, sorry.
-/
import Derived.Test.YoeeiwDoorRows
import GoSem.ClaimSeven
namespace Go.Proofs.YoeeiwDoor
namespace Rows

/-- THE TIED CARD OF 'zzlaws_root_b3.FnBadArgNumExact'. -/
def fnBadArgNumExactCard : Claim7 := { stood := { row := fnBadArgNumExactRow, standIns := [], harness := (true, "8230e1582452a7eff11584377a4824117cb66ed07e411a4502317e5781ad7fc3"), looks := false }, kinds := [], alts := [], laidByText := true, laidKinds := [.called, .data], laidTests := true, laidLooks := .later }
def FnBadArgNumExactCardSaid : Prop := Claim7.holds Eeig.pinned (.plain (OpenSpec.ofChange fnBadArgNumExactSpec)) fnBadArgNumExactCard

/-- THE TIED CARD OF 'zzlaws_root_b3.FnBadArgNumInjective'. -/
def fnBadArgNumInjectiveCard : Claim7 := { stood := { row := fnBadArgNumInjectiveRow, standIns := [], harness := (true, "8230e1582452a7eff11584377a4824117cb66ed07e411a4502317e5781ad7fc3"), looks := false }, kinds := [], alts := [], laidByText := true, laidKinds := [.called, .data], laidTests := true, laidLooks := .later }
def FnBadArgNumInjectiveCardSaid : Prop := Claim7.holds Eeig.pinned (.plain (OpenSpec.ofChange fnBadArgNumInjectiveSpec)) fnBadArgNumInjectiveCard

/-- THE TIED CARD OF 'zzlaws_root_b3.FnMissingArgExact'. -/
def fnMissingArgExactCard : Claim7 := { stood := { row := fnMissingArgExactRow, standIns := [], harness := (true, "8230e1582452a7eff11584377a4824117cb66ed07e411a4502317e5781ad7fc3"), looks := false }, kinds := [], alts := [], laidByText := true, laidKinds := [.called, .data], laidTests := true, laidLooks := .later }
def FnMissingArgExactCardSaid : Prop := Claim7.holds Eeig.pinned (.plain (OpenSpec.ofChange fnMissingArgExactSpec)) fnMissingArgExactCard
end Rows
end Go.Proofs.YoeeiwDoor
