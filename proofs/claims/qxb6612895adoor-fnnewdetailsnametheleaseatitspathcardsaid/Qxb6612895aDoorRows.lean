/-
  NARROWER THAN 'FOR EVERY INPUT', by the rows' own cells (each row's printed sentence says how): FnCollectionPathJoinsAtAnyCut: laid · FnCollectionPathSegmentsAndDistinct: laid · FnPathLiesUnderItsCollection: laid · FnPathPairsAreDistinct: laid · FnNewDetailsNameTheLeaseAtItsPath: laid.
  DERIVED. THE GIVEN ROWS OF THIS SEAT. 5 by the template 'for every input the law returns true; each argument reads behind the call as it read before'; 0 by the template 'total and deterministic' (their statements: Qxb6612895aDoorTotals.lean).
  GIVEN WITH THE SEED: the statements are not yours to turn. If you find one false, say at which input.
  Laid BY PROGRAM, IN A SANDBOX (cutbox-rows.mjs): the forced cells as the released guide's own fill.sh prints them over the translation 30f5f098d20e6cdc… (all of the seat's roots in one cut). By AI agents, Wed Nov 11 2026. No macro, syntax, notation, axiom, sorry.
-/
import Derived.Test.Qxb6612895aDoorChecked
import GoSem.Claim
import GoSem.ClaimJoined
import GoSem.ClaimMapViews
import Derived.JoinedTies
import Derived.KernelRfl
namespace Go.Proofs.Qxb6612895aDoor
/- THE CELL 'sum', in the pinned program and in every row, IS THE sha256 OF THE DUMP (.gsa) THAT Qxb6612895aDoorProg.lean LOADS. Nothing in Lean hashes anything: it is a label: what it is worth is what the hold of that sum in a sandbox is worth. -/
noncomputable def Tryd.pinned : Pinned := { name := "qxb6612895adoor", sum := "30f5f098d20e6cdc72dc3505eff1209d76d370327a33a6dea12d57052be9b7fe", checked := Tryd.checked }
namespace Rows
def none {H : Type} : Left H := { results := [], args := [] }

/- WHAT THE LISTED PACKAGE-LEVEL VARIABLES READ AS WHEN THE CALL BEGINS. Each datum BY PROGRAM (the guide's laid-datum.mjs) off the statement by which the dump's own 'gosem.cut.vars' lays the variable. In a bare row this is a premise. The card (Qxb6612895aDoorCards.lean) ties it to the program's text. -/
def laid_net_url_table {H : Type} : DataW H := .agg [.lit (.int .u8 0), .lit (.int .u8 0), .lit (.int .u8 0), .lit (.int .u8 0), .lit (.int .u8 0), .lit (.int .u8 0), .lit (.int .u8 0), .lit (.int .u8 0), .lit (.int .u8 0), .lit (.int .u8 0), .lit (.int .u8 0), .lit (.int .u8 0), .lit (.int .u8 0), .lit (.int .u8 0), .lit (.int .u8 0), .lit (.int .u8 0), .lit (.int .u8 0), .lit (.int .u8 0), .lit (.int .u8 0), .lit (.int .u8 0), .lit (.int .u8 0), .lit (.int .u8 0), .lit (.int .u8 0), .lit (.int .u8 0), .lit (.int .u8 0), .lit (.int .u8 0), .lit (.int .u8 0), .lit (.int .u8 0), .lit (.int .u8 0), .lit (.int .u8 0), .lit (.int .u8 0), .lit (.int .u8 0), .lit (.int .u8 0), .lit (.int .u8 76), .lit (.int .u8 12), .lit (.int .u8 0), .lit (.int .u8 95), .lit (.int .u8 0), .lit (.int .u8 95), .lit (.int .u8 12), .lit (.int .u8 76), .lit (.int .u8 76), .lit (.int .u8 76), .lit (.int .u8 95), .lit (.int .u8 93), .lit (.int .u8 127), .lit (.int .u8 127), .lit (.int .u8 65), .lit (.int .u8 255), .lit (.int .u8 255), .lit (.int .u8 255), .lit (.int .u8 255), .lit (.int .u8 255), .lit (.int .u8 255), .lit (.int .u8 255), .lit (.int .u8 255), .lit (.int .u8 255), .lit (.int .u8 255), .lit (.int .u8 79), .lit (.int .u8 93), .lit (.int .u8 12), .lit (.int .u8 95), .lit (.int .u8 12), .lit (.int .u8 64), .lit (.int .u8 67), .lit (.int .u8 255), .lit (.int .u8 255), .lit (.int .u8 255), .lit (.int .u8 255), .lit (.int .u8 255), .lit (.int .u8 255), .lit (.int .u8 127), .lit (.int .u8 127), .lit (.int .u8 127), .lit (.int .u8 127), .lit (.int .u8 127), .lit (.int .u8 127), .lit (.int .u8 127), .lit (.int .u8 127), .lit (.int .u8 127), .lit (.int .u8 127), .lit (.int .u8 127), .lit (.int .u8 127), .lit (.int .u8 127), .lit (.int .u8 127), .lit (.int .u8 127), .lit (.int .u8 127), .lit (.int .u8 127), .lit (.int .u8 127), .lit (.int .u8 127), .lit (.int .u8 127), .lit (.int .u8 12), .lit (.int .u8 0), .lit (.int .u8 12), .lit (.int .u8 0), .lit (.int .u8 127), .lit (.int .u8 0), .lit (.int .u8 255), .lit (.int .u8 255), .lit (.int .u8 255), .lit (.int .u8 255), .lit (.int .u8 255), .lit (.int .u8 255), .lit (.int .u8 127), .lit (.int .u8 127), .lit (.int .u8 127), .lit (.int .u8 127), .lit (.int .u8 127), .lit (.int .u8 127), .lit (.int .u8 127), .lit (.int .u8 127), .lit (.int .u8 127), .lit (.int .u8 127), .lit (.int .u8 127), .lit (.int .u8 127), .lit (.int .u8 127), .lit (.int .u8 127), .lit (.int .u8 127), .lit (.int .u8 127), .lit (.int .u8 127), .lit (.int .u8 127), .lit (.int .u8 127), .lit (.int .u8 127), .lit (.int .u8 0), .lit (.int .u8 0), .lit (.int .u8 0), .lit (.int .u8 127), .lit (.int .u8 0), .lit (.int .u8 0), .lit (.int .u8 0), .lit (.int .u8 0), .lit (.int .u8 0), .lit (.int .u8 0), .lit (.int .u8 0), .lit (.int .u8 0), .lit (.int .u8 0), .lit (.int .u8 0), .lit (.int .u8 0), .lit (.int .u8 0), .lit (.int .u8 0), .lit (.int .u8 0), .lit (.int .u8 0), .lit (.int .u8 0), .lit (.int .u8 0), .lit (.int .u8 0), .lit (.int .u8 0), .lit (.int .u8 0), .lit (.int .u8 0), .lit (.int .u8 0), .lit (.int .u8 0), .lit (.int .u8 0), .lit (.int .u8 0), .lit (.int .u8 0), .lit (.int .u8 0), .lit (.int .u8 0), .lit (.int .u8 0), .lit (.int .u8 0), .lit (.int .u8 0), .lit (.int .u8 0), .lit (.int .u8 0), .lit (.int .u8 0), .lit (.int .u8 0), .lit (.int .u8 0), .lit (.int .u8 0), .lit (.int .u8 0), .lit (.int .u8 0), .lit (.int .u8 0), .lit (.int .u8 0), .lit (.int .u8 0), .lit (.int .u8 0), .lit (.int .u8 0), .lit (.int .u8 0), .lit (.int .u8 0), .lit (.int .u8 0), .lit (.int .u8 0), .lit (.int .u8 0), .lit (.int .u8 0), .lit (.int .u8 0), .lit (.int .u8 0), .lit (.int .u8 0), .lit (.int .u8 0), .lit (.int .u8 0), .lit (.int .u8 0), .lit (.int .u8 0), .lit (.int .u8 0), .lit (.int .u8 0), .lit (.int .u8 0), .lit (.int .u8 0), .lit (.int .u8 0), .lit (.int .u8 0), .lit (.int .u8 0), .lit (.int .u8 0), .lit (.int .u8 0), .lit (.int .u8 0), .lit (.int .u8 0), .lit (.int .u8 0), .lit (.int .u8 0), .lit (.int .u8 0), .lit (.int .u8 0), .lit (.int .u8 0), .lit (.int .u8 0), .lit (.int .u8 0), .lit (.int .u8 0), .lit (.int .u8 0), .lit (.int .u8 0), .lit (.int .u8 0), .lit (.int .u8 0), .lit (.int .u8 0), .lit (.int .u8 0), .lit (.int .u8 0), .lit (.int .u8 0), .lit (.int .u8 0), .lit (.int .u8 0), .lit (.int .u8 0), .lit (.int .u8 0), .lit (.int .u8 0), .lit (.int .u8 0), .lit (.int .u8 0), .lit (.int .u8 0), .lit (.int .u8 0), .lit (.int .u8 0), .lit (.int .u8 0), .lit (.int .u8 0), .lit (.int .u8 0), .lit (.int .u8 0), .lit (.int .u8 0), .lit (.int .u8 0), .lit (.int .u8 0), .lit (.int .u8 0), .lit (.int .u8 0), .lit (.int .u8 0), .lit (.int .u8 0), .lit (.int .u8 0), .lit (.int .u8 0), .lit (.int .u8 0), .lit (.int .u8 0), .lit (.int .u8 0), .lit (.int .u8 0), .lit (.int .u8 0), .lit (.int .u8 0), .lit (.int .u8 0), .lit (.int .u8 0), .lit (.int .u8 0), .lit (.int .u8 0), .lit (.int .u8 0), .lit (.int .u8 0), .lit (.int .u8 0), .lit (.int .u8 0), .lit (.int .u8 0), .lit (.int .u8 0), .lit (.int .u8 0), .lit (.int .u8 0), .lit (.int .u8 0), .lit (.int .u8 0), .lit (.int .u8 0), .lit (.int .u8 0)]

/-- 'zzlaws_internal_lease_b1.FnCollectionPathJoinsAtAnyCut': WHATEVER THE INPUT: true; the input reads as it did. -/
def fnCollectionPathJoinsAtAnyCutSpec : ChangeSpec := { name := "fnCollectionPathJoinsAtAnyCut", fn := fun _ => fun
  | [d1, d2] => { results := [.lit (.bool true)], args := [d1, d2] }
  | _ => none }
def fnCollectionPathJoinsAtAnyCutRow : OpenClaim := { program := "qxb6612895adoor", sum := "30f5f098d20e6cdc72dc3505eff1209d76d370327a33a6dea12d57052be9b7fe", func := "example.com/leasehold/leasehold/zzlaws_internal_lease_b1.FnCollectionPathJoinsAtAnyCut", spec := "fnCollectionPathJoinsAtAnyCut", named := ["net/url.table"], apart := false, laid := [("net/url.table", laid_net_url_table)] }
def FnCollectionPathJoinsAtAnyCutSaid : Prop := fnCollectionPathJoinsAtAnyCutRow.holds Tryd.pinned (OpenSpec.ofChange fnCollectionPathJoinsAtAnyCutSpec)

/-- ITS FALSE NEIGHBOUR: 'it returns false'. Refute it at one input. -/
def fnCollectionPathJoinsAtAnyCutWrong : ChangeSpec := { name := "fnCollectionPathJoinsAtAnyCut", fn := fun _ => fun
  | [d1, d2] => { results := [.lit (.bool false)], args := [d1, d2] }
  | _ => none }
def FnCollectionPathJoinsAtAnyCutWrongFalsely : Prop := fnCollectionPathJoinsAtAnyCutRow.holds Tryd.pinned (OpenSpec.ofChange fnCollectionPathJoinsAtAnyCutWrong)

/-- 'zzlaws_internal_lease_b1.FnCollectionPathSegmentsAndDistinct': WHATEVER THE INPUT: true; the input reads as it did. -/
def fnCollectionPathSegmentsAndDistinctSpec : ChangeSpec := { name := "fnCollectionPathSegmentsAndDistinct", fn := fun _ => fun
  | [d1, d2] => { results := [.lit (.bool true)], args := [d1, d2] }
  | _ => none }
def fnCollectionPathSegmentsAndDistinctRow : OpenClaim := { program := "qxb6612895adoor", sum := "30f5f098d20e6cdc72dc3505eff1209d76d370327a33a6dea12d57052be9b7fe", func := "example.com/leasehold/leasehold/zzlaws_internal_lease_b1.FnCollectionPathSegmentsAndDistinct", spec := "fnCollectionPathSegmentsAndDistinct", named := ["net/url.table"], apart := false, laid := [("net/url.table", laid_net_url_table)] }
def FnCollectionPathSegmentsAndDistinctSaid : Prop := fnCollectionPathSegmentsAndDistinctRow.holds Tryd.pinned (OpenSpec.ofChange fnCollectionPathSegmentsAndDistinctSpec)

/-- ITS FALSE NEIGHBOUR: 'it returns false'. Refute it at one input. -/
def fnCollectionPathSegmentsAndDistinctWrong : ChangeSpec := { name := "fnCollectionPathSegmentsAndDistinct", fn := fun _ => fun
  | [d1, d2] => { results := [.lit (.bool false)], args := [d1, d2] }
  | _ => none }
def FnCollectionPathSegmentsAndDistinctWrongFalsely : Prop := fnCollectionPathSegmentsAndDistinctRow.holds Tryd.pinned (OpenSpec.ofChange fnCollectionPathSegmentsAndDistinctWrong)

/-- 'zzlaws_internal_lease_b1.FnPathLiesUnderItsCollection': WHATEVER THE INPUT: true; the input reads as it did. -/
def fnPathLiesUnderItsCollectionSpec : ChangeSpec := { name := "fnPathLiesUnderItsCollection", fn := fun _ => fun
  | [d1, d2] => { results := [.lit (.bool true)], args := [d1, d2] }
  | _ => none }
def fnPathLiesUnderItsCollectionRow : OpenClaim := { program := "qxb6612895adoor", sum := "30f5f098d20e6cdc72dc3505eff1209d76d370327a33a6dea12d57052be9b7fe", func := "example.com/leasehold/leasehold/zzlaws_internal_lease_b1.FnPathLiesUnderItsCollection", spec := "fnPathLiesUnderItsCollection", named := ["net/url.table"], apart := false, laid := [("net/url.table", laid_net_url_table)] }
def FnPathLiesUnderItsCollectionSaid : Prop := fnPathLiesUnderItsCollectionRow.holds Tryd.pinned (OpenSpec.ofChange fnPathLiesUnderItsCollectionSpec)

/-- ITS FALSE NEIGHBOUR: 'it returns false'. Refute it at one input. -/
def fnPathLiesUnderItsCollectionWrong : ChangeSpec := { name := "fnPathLiesUnderItsCollection", fn := fun _ => fun
  | [d1, d2] => { results := [.lit (.bool false)], args := [d1, d2] }
  | _ => none }
def FnPathLiesUnderItsCollectionWrongFalsely : Prop := fnPathLiesUnderItsCollectionRow.holds Tryd.pinned (OpenSpec.ofChange fnPathLiesUnderItsCollectionWrong)

/-- 'zzlaws_internal_lease_b1.FnPathPairsAreDistinct': WHATEVER THE INPUT: true; the input reads as it did. -/
def fnPathPairsAreDistinctSpec : ChangeSpec := { name := "fnPathPairsAreDistinct", fn := fun _ => fun
  | [d1, d2, d3, d4] => { results := [.lit (.bool true)], args := [d1, d2, d3, d4] }
  | _ => none }
def fnPathPairsAreDistinctRow : OpenClaim := { program := "qxb6612895adoor", sum := "30f5f098d20e6cdc72dc3505eff1209d76d370327a33a6dea12d57052be9b7fe", func := "example.com/leasehold/leasehold/zzlaws_internal_lease_b1.FnPathPairsAreDistinct", spec := "fnPathPairsAreDistinct", named := ["net/url.table"], apart := false, laid := [("net/url.table", laid_net_url_table)] }
def FnPathPairsAreDistinctSaid : Prop := fnPathPairsAreDistinctRow.holds Tryd.pinned (OpenSpec.ofChange fnPathPairsAreDistinctSpec)

/-- ITS FALSE NEIGHBOUR: 'it returns false'. Refute it at one input. -/
def fnPathPairsAreDistinctWrong : ChangeSpec := { name := "fnPathPairsAreDistinct", fn := fun _ => fun
  | [d1, d2, d3, d4] => { results := [.lit (.bool false)], args := [d1, d2, d3, d4] }
  | _ => none }
def FnPathPairsAreDistinctWrongFalsely : Prop := fnPathPairsAreDistinctRow.holds Tryd.pinned (OpenSpec.ofChange fnPathPairsAreDistinctWrong)

/-- 'zzlaws_internal_lease_b1.FnNewDetailsNameTheLeaseAtItsPath': WHATEVER THE INPUT: true; the input reads as it did. -/
def fnNewDetailsNameTheLeaseAtItsPathSpec : ChangeSpec := { name := "fnNewDetailsNameTheLeaseAtItsPath", fn := fun _ => fun
  | [d1, d2] => { results := [.lit (.bool true)], args := [d1, d2] }
  | _ => none }
def fnNewDetailsNameTheLeaseAtItsPathRow : OpenClaim := { program := "qxb6612895adoor", sum := "30f5f098d20e6cdc72dc3505eff1209d76d370327a33a6dea12d57052be9b7fe", func := "example.com/leasehold/leasehold/zzlaws_internal_lease_b1.FnNewDetailsNameTheLeaseAtItsPath", spec := "fnNewDetailsNameTheLeaseAtItsPath", named := ["net/url.table"], apart := false, laid := [("net/url.table", laid_net_url_table)] }
def FnNewDetailsNameTheLeaseAtItsPathSaid : Prop := fnNewDetailsNameTheLeaseAtItsPathRow.holds Tryd.pinned (OpenSpec.ofChange fnNewDetailsNameTheLeaseAtItsPathSpec)

/-- ITS FALSE NEIGHBOUR: 'it returns false'. Refute it at one input. -/
def fnNewDetailsNameTheLeaseAtItsPathWrong : ChangeSpec := { name := "fnNewDetailsNameTheLeaseAtItsPath", fn := fun _ => fun
  | [d1, d2] => { results := [.lit (.bool false)], args := [d1, d2] }
  | _ => none }
def FnNewDetailsNameTheLeaseAtItsPathWrongFalsely : Prop := fnNewDetailsNameTheLeaseAtItsPathRow.holds Tryd.pinned (OpenSpec.ofChange fnNewDetailsNameTheLeaseAtItsPathWrong)

end Rows
end Go.Proofs.Qxb6612895aDoor
