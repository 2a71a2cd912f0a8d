/-
  No cell of these rows narrows 'for every input' (looked for: loops, veiled, ifaces, maps, wideKeys, modest, calm, conditions, laid).
  DERIVED. THE GIVEN ROWS OF THIS SEAT. 1 by the template 'for every input the law returns true; each argument reads behind the call as it read before'; 0 by the template 'total and deterministic' (their statements: Qxb6612895aTotals.lean).
  GIVEN WITH THE SEED: the statements are not yours to turn. If you find one false, say at which input.
  Laid BY PROGRAM, IN A SANDBOX (cutbox-rows.mjs): the forced cells as the released guide's own fill.sh prints them over the translation 4db7b28000c885b4… (all of the seat's roots in one cut). By AI agents, Wed Nov 11 2026. No macro, syntax, notation, axiom, sorry.
-/
import Derived.Test.Qxb6612895aChecked
import GoSem.Claim
import GoSem.ClaimJoined
import GoSem.ClaimMapViews
import Derived.JoinedTies
import Derived.KernelRfl
namespace Go.Proofs.Qxb6612895a
/- THE CELL 'sum', in the pinned program and in every row, IS THE sha256 OF THE DUMP (.gsa) THAT Qxb6612895aProg.lean LOADS. Nothing in Lean hashes anything: it is a label: what it is worth is what the hold of that sum in a sandbox is worth. -/
noncomputable def Try.pinned : Pinned := { name := "qxb6612895a", sum := "4db7b28000c885b41c366692823e52c016f38c40d991684e57233e8fb7783d84", checked := Try.checked }
namespace Rows
def none {H : Type} : Left H := { results := [], args := [] }

/-- 'zzlaws_internal_lease_b1.FnNewDetailsFreshEachCall': WHATEVER THE INPUT: true; the input reads as it did. -/
def fnNewDetailsFreshEachCallSpec : ChangeSpec := { name := "fnNewDetailsFreshEachCall", fn := fun _ => fun
  | [d] => { results := [.lit (.bool true)], args := [d] }
  | _ => none }
def fnNewDetailsFreshEachCallRow : OpenClaim := { program := "qxb6612895a", sum := "4db7b28000c885b41c366692823e52c016f38c40d991684e57233e8fb7783d84", func := "example.com/leasehold/leasehold/zzlaws_internal_lease_b1.FnNewDetailsFreshEachCall", spec := "fnNewDetailsFreshEachCall", apart := false }
def FnNewDetailsFreshEachCallSaid : Prop := fnNewDetailsFreshEachCallRow.holds Try.pinned (OpenSpec.ofChange fnNewDetailsFreshEachCallSpec)

/-- ITS FALSE NEIGHBOUR: 'it returns false'. Refute it at one input. -/
def fnNewDetailsFreshEachCallWrong : ChangeSpec := { name := "fnNewDetailsFreshEachCall", fn := fun _ => fun
  | [d] => { results := [.lit (.bool false)], args := [d] }
  | _ => none }
def FnNewDetailsFreshEachCallWrongFalsely : Prop := fnNewDetailsFreshEachCallRow.holds Try.pinned (OpenSpec.ofChange fnNewDetailsFreshEachCallWrong)

end Rows
end Go.Proofs.Qxb6612895a
