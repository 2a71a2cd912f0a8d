/-
  WHAT ALL FIVE CARDS SHARE: the listed variable (net/url's table) opened into the table's cells; the door's own heap meets the condition (the witness).
-/
import Derived.Test.Qxb6612895aDoorTie
import Derived.Test.Qxb6612895aDoorCards
import Derived.Test.Qxb6612895aDoorEscape
import Derived.ProofKit
import Derived.LaidMore
import Derived.OpenShut
import Derived.ShutString
import Derived.Stop.Joined
import Derived.SevenTiedAt
namespace Go.Proofs.Qxb6612895aDoor
open Go.ChangeShapes Go.WideShapes Go.ChangeAt Go.RowKit
open Go.ChangeMaps (open_string shut_string)

/-- The variable's name, and the rows' list of what it reads as: the given rows' own. -/
def tabName : String := Rows.fnCollectionPathJoinsAtAnyCutRow.named.headD ""
def laidL : List (String × DataW Unit) := [(tabName, Rows.laid_net_url_table)]

theorem own : ownKnob Tryd.prog.godebug = none := by kernel_rfl
theorem gTab : Tryd.prog.globalNamed tabName = some 0 := by kernel_rfl
theorem tTab : (Tryd.prog.globals[0]?).map (·.type) = some 43 := by kernel_rfl
theorem cells38 : Tryd.prog.cellsOf 38 = 1 := by kernel_rfl
theorem cells43 : Tryd.prog.cellsOf 43 = 256 := by kernel_rfl
theorem arr43 : Tryd.prog.underlying 43 = some (.array 256 38) := by kernel_rfl
theorem und38 : Tryd.prog.underlying 38 = some (.int .u8) := by kernel_rfl
theorem tabl_len : tabl.length = 256 := by kernel_rfl

/-- WHAT THE CONDITION GIVES THE WALKS: the table's cells. -/
theorem tab_of_laid {W : World} (h : laidMetH Tryd.prog laidL W) : Tab W ∧ 0 < W.heap.size := by
  unfold laidL at h
  rw [MakeChecks.laidMetH_plain _ _ _ (by kernel_rfl), laid_tab] at h
  have hT := Lib.tabIs_of_head gTab tTab arr43 und38 cells38 cells43 h
  have hc : Tab W := fun i hi => hT.cell gTab i (by rw [tabl_len]; exact hi)
  refine ⟨hc, ?_⟩
  have h0 := hc 0 (by decide)
  rcases Nat.eq_zero_or_pos W.heap.size with h1 | h1
  · simp [World.cell?, h1] at h0
  · exact h1
theorem door_met (os : Os) (args : Array Value) : laidMetH Tryd.prog laidL ((World.doorLaid Tryd.prog 14 os).forCall (fun _ _ => 0) ⟨#[], args, []⟩).memory :=
  laidMetH_of_parts3 (fuel := 8) (laidMet_of_run' 8 (by kernel_rfl) (by kernel_rfl)) (by kernel_rfl) (by kernel_rfl)
end Go.Proofs.Qxb6612895aDoor
