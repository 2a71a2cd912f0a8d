/-
  DERIVED. GIVEN WITH THE SEED: THE CARDS: each row of Qxb6612895aDoorRows.lean that lists a variable, with what it lists TIED to the program's text (the seventh form; the later family's looks); each row that meets fmt, with fmt's text TOLD by the authors' own Lean function (tested against real Go, not proved from fmt's source: count such statements apart). THE CARD IS WHAT COUNTS. Prove the row's statement (the work); the ties are given (Qxb6612895aDoorTie.lean); close each card by the builder's one call (the guide's Derived/Test/ToyasCard.lean, 'card_holds'). Laid BY PROGRAM, IN A SANDBOX (cutbox-door.mjs). By AI agents, Wed Nov 11 2026. No macro, syntax, notation, axiom, sorry.
-/
import Derived.Test.Qxb6612895aDoorRows
import GoSem.ClaimSeven
namespace Go.Proofs.Qxb6612895aDoor
namespace Rows

/-- THE TIED CARD OF 'zzlaws_internal_lease_b1.FnCollectionPathJoinsAtAnyCut'. -/
def fnCollectionPathJoinsAtAnyCutCard : Claim7 := { stood := { row := fnCollectionPathJoinsAtAnyCutRow, standIns := [], harness := (true, "14df6a77b98d76cb0c08b785f149e3fd27ee9cc1ed267861c9411a843447bf5a"), looks := false }, kinds := [], alts := [], laidByText := true, laidKinds := [.data], laidTests := true, laidLooks := .later }
def FnCollectionPathJoinsAtAnyCutCardSaid : Prop := Claim7.holds Tryd.pinned (.plain (OpenSpec.ofChange fnCollectionPathJoinsAtAnyCutSpec)) fnCollectionPathJoinsAtAnyCutCard

/-- THE TIED CARD OF 'zzlaws_internal_lease_b1.FnCollectionPathSegmentsAndDistinct'. -/
def fnCollectionPathSegmentsAndDistinctCard : Claim7 := { stood := { row := fnCollectionPathSegmentsAndDistinctRow, standIns := [], harness := (true, "14df6a77b98d76cb0c08b785f149e3fd27ee9cc1ed267861c9411a843447bf5a"), looks := false }, kinds := [], alts := [], laidByText := true, laidKinds := [.data], laidTests := true, laidLooks := .later }
def FnCollectionPathSegmentsAndDistinctCardSaid : Prop := Claim7.holds Tryd.pinned (.plain (OpenSpec.ofChange fnCollectionPathSegmentsAndDistinctSpec)) fnCollectionPathSegmentsAndDistinctCard

/-- THE TIED CARD OF 'zzlaws_internal_lease_b1.FnPathLiesUnderItsCollection'. -/
def fnPathLiesUnderItsCollectionCard : Claim7 := { stood := { row := fnPathLiesUnderItsCollectionRow, standIns := [], harness := (true, "14df6a77b98d76cb0c08b785f149e3fd27ee9cc1ed267861c9411a843447bf5a"), looks := false }, kinds := [], alts := [], laidByText := true, laidKinds := [.data], laidTests := true, laidLooks := .later }
def FnPathLiesUnderItsCollectionCardSaid : Prop := Claim7.holds Tryd.pinned (.plain (OpenSpec.ofChange fnPathLiesUnderItsCollectionSpec)) fnPathLiesUnderItsCollectionCard

/-- THE TIED CARD OF 'zzlaws_internal_lease_b1.FnPathPairsAreDistinct'. -/
def fnPathPairsAreDistinctCard : Claim7 := { stood := { row := fnPathPairsAreDistinctRow, standIns := [], harness := (true, "14df6a77b98d76cb0c08b785f149e3fd27ee9cc1ed267861c9411a843447bf5a"), looks := false }, kinds := [], alts := [], laidByText := true, laidKinds := [.data], laidTests := true, laidLooks := .later }
def FnPathPairsAreDistinctCardSaid : Prop := Claim7.holds Tryd.pinned (.plain (OpenSpec.ofChange fnPathPairsAreDistinctSpec)) fnPathPairsAreDistinctCard

/-- THE TIED CARD OF 'zzlaws_internal_lease_b1.FnNewDetailsNameTheLeaseAtItsPath'. -/
def fnNewDetailsNameTheLeaseAtItsPathCard : Claim7 := { stood := { row := fnNewDetailsNameTheLeaseAtItsPathRow, standIns := [], harness := (true, "14df6a77b98d76cb0c08b785f149e3fd27ee9cc1ed267861c9411a843447bf5a"), looks := false }, kinds := [], alts := [], laidByText := true, laidKinds := [.data], laidTests := true, laidLooks := .later }
def FnNewDetailsNameTheLeaseAtItsPathCardSaid : Prop := Claim7.holds Tryd.pinned (.plain (OpenSpec.ofChange fnNewDetailsNameTheLeaseAtItsPathSpec)) fnNewDetailsNameTheLeaseAtItsPathCard
end Rows
end Go.Proofs.Qxb6612895aDoor
