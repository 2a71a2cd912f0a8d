/-
  'Rows.FnNewDetailsFreshEachCallSaid': the walk of the law and of its three callees, and the template's lift to the row.
-/
import Derived.Test.Qxb6612895aRows
import Derived.WalkKit
import Derived.ProofKit
import Derived.OpenShut
import Derived.ShutString
import Derived.WalkSpells
import Derived.LaidEqlPtr
import Derived.BigQuiet
import Derived.Deep.QuietTactic
namespace Go.Proofs.Qxb6612895a.fnNewDetailsFreshEachCall
open Go.ChangeShapes Go.WideShapes Go.ChangeAt Go.RowKit
open Go.ChangeMaps (open_string shut_string)
set_option linter.unusedVariables false      -- a walk need not use every 'w<i>' (that an integer argument fits its kind)

theorem own : ownKnob Try.prog.godebug = none := by kernel_rfl

theorem Grown.drewN {W w' : World} (h : Grown W w') (n : Nat) : Grown W (w'.drewN n) := h
set_option maxHeartbeats 400000 in
theorem bytes_any (s : ByteArray) (w : World) (hs : s.size ≤ maxLen) :
    Calls Try.prog 4 #[.string s] w fun e w' => e = .returned (.bool (decide (s.size ≤ 1048576))) ∧ w' = w := by
  unfold maxLen at hs
  by_cases h : s.size ≤ 1048576
  · go_enter Try.func4, Try.ntmps4
    go_wp2
    go_ret
    exact ⟨by simp [h], rfl⟩
  · go_enter Try.func4, Try.ntmps4
    go_wp2
    go_ret
    exact ⟨by simp [h], rfl⟩
set_option maxHeartbeats 400000 in
theorem nd_any (s : ByteArray) (w : World) :
    Calls Try.prog 6 #[.string s] w fun e w' => e = .returned (.pointer (some ⟨w.heap.size, 0, none⟩)) ∧ w' = w.alloc (.cells #[.string s, .string ⟨#[99, 111, 111, 114, 100, 105, 110, 97, 116, 105, 111, 110, 46, 107, 56, 115, 46, 105, 111]⟩, .string ⟨#[108, 101, 97, 115, 101, 115]⟩, .string ⟨#[]⟩] 26) := by
  go_enter Try.func6, Try.ntmps6
  go_wp2
  go_ret
  exact ⟨rfl, rfl⟩
set_option maxHeartbeats 400000 in
theorem znd_any (s : ByteArray) (w : World) :
    Calls Try.prog 5 #[.string s] w fun e w' => e = .returned (.pointer (some ⟨w.heap.size, 0, none⟩)) ∧ w' = w.alloc (.cells #[.string s, .string ⟨#[99, 111, 111, 114, 100, 105, 110, 97, 116, 105, 111, 110, 46, 107, 56, 115, 46, 105, 111]⟩, .string ⟨#[108, 101, 97, 115, 101, 115]⟩, .string ⟨#[]⟩] 26) := by
  go_enter Try.func5, Try.ntmps5
  go_wp2_with (go_at_call 6; refine (nd_any _ _).mono ?_; rintro e w' ⟨rfl, rfl⟩)
  go_ret
  exact ⟨rfl, rfl⟩
theorem peq (w : World) (c1 c2 : Array Value) :
    (binOp .eql 23 (.pointer (some ⟨w.heap.size, 0, none⟩)) (.pointer (some ⟨w.heap.size + 1, 0, none⟩))).run Try.prog ((w.alloc (.cells c1 26)).alloc (.cells c2 26)) = .ok (.bool false) ((w.alloc (.cells c1 26)).alloc (.cells c2 26)) := by
  have hj : (Try.prog.info? 26).map (fun j => decide (j.size ≠ 0)) = some true := by kernel_rfl
  obtain ⟨j, hj1, hj2⟩ := Option.map_eq_some_iff.mp hj
  refine run_eql_ptr_other (tp := 23) (te := 26) (j := j) (ca := c1) (cb := c2) (ta := 26) (tb := 26) _ Try.underlying23 hj1 (of_decide_eq_true hj2) (by simp) ?_ ?_
  · show ((w.heap.push _).push _)[w.heap.size]? = _
    simp [Array.getElem?_push]
  · show ((w.heap.push _).push _)[w.heap.size + 1]? = _
    rw [Array.getElem?_push]
    simp
set_option maxHeartbeats 400000 in
theorem walk (a0 : ByteArray) (w0 : a0.size ≤ maxLen) (w : World) :
    Calls Try.prog 3 #[.string a0] w fun e w' => e = .returned (.bool true) ∧ Grown w w' := by
  have hc := bytes_any a0 w w0
  by_cases h : a0.size ≤ 1048576
  · have hd : decide (a0.size ≤ 1048576) = true := by simpa using h
    rw [hd] at hc
    have hx : a0.size ≤ 140737488355327 := by omega
    have hp := peq
    go_enter Try.func3, Try.ntmps3
    go_wp2_with (first | (go_at_call 4; refine hc.mono ?_; rintro e w' ⟨rfl, rfl⟩) | (go_at_call 5; refine (znd_any _ _).mono ?_; rintro e w' ⟨rfl, rfl⟩))
    go_quiet (fail)
    go_wp2
    go_quiet (fail)
    go_wp2
    go_ret
    refine ⟨rfl, ?_⟩
    refine Grown.drewN (Grown.alloc ?_ _ _) _
    refine Grown.setCell (Grown.setCell (Grown.setCell (Grown.setCell (Grown.drewN ?_ _) (Nat.le_refl _) _) (Nat.le_refl _) _) (Nat.le_refl _) _) (Nat.le_refl _) _
    exact ((Grown.refl _).alloc _ _).alloc _ _
  · have hd : decide (a0.size ≤ 1048576) = false := by simpa using h
    rw [hd] at hc
    go_enter Try.func3, Try.ntmps3
    go_wp2_with (first | (go_at_call 4; refine hc.mono ?_; rintro e w' ⟨rfl, rfl⟩) | (go_at_call 5; refine (znd_any _ _).mono ?_; rintro e w' ⟨rfl, rfl⟩))
    go_ret
    exact ⟨rfl, Grown.refl _⟩
/-! ### THE ROW's STEP: WRITTEN OUT: LEAVE IT -/
set_option maxRecDepth 100000 in
theorem lifted (os : Os) (started : os.Started) (H : Type) (enc : TypeId × Value → H) :
    ReturnsInHanded {} Try.checked os 3 .any (Rows.fnNewDetailsFreshEachCallSpec.pre6 enc Try.prog Try.f3 Rows.fnNewDetailsFreshEachCallRow.domain false) (Rows.fnNewDetailsFreshEachCallSpec.post enc Try.prog Try.f3 false true false false) := by
  refine returnsInHanded_of_change (C := Try.checked) own started (by kernel_rfl) Try.func3
    (ChangeSpec.witness6 (enc := enc) (C := Try.checked) false ⟨#[], #[.string ByteArray.empty], []⟩ 8 (by kernel_rfl) (by kernel_rfl) (by kernel_rfl) (by kernel_rfl)) ?_
  intro W base args ds gs before hval0 hW hcnd _
  have hval : ∀ (j : Nat) t v, Try.f3.params[j]? = some t → args[j]? = some v → Value.okWide Try.prog W .any base t v := hval0
  have hW' := hW
  obtain ⟨p, q, hA0, hV, rfl, hfz, hnd⟩ := hW
  have hA : DataW.TrodAll enc Try.prog W 0 (fun _ => true) true Try.f3.params.toList args.toList ds p := hA0
  rw [Try.params3] at hA hval
  obtain ⟨v0, vs0, d0, ds0, p0, q0, hargs, rfl, rfl, h0, r0⟩ := trodAll_cons hA
  obtain ⟨rfl, rfl, rfl⟩ := trodAll_nil r0
  obtain rfl : args = #[v0] := by cases args; simp_all
  obtain ⟨rfl, rfl⟩ := trodVars_none hV
  obtain ⟨a0, rfl, rfl, rfl, w0⟩ := open_string Try.underlying9 (hval 0 9 v0 rfl rfl) h0
  clear hA0 hval0
  simp only [List.append_nil] at hW'
  refine (walk a0 w0 W).mono fun e W' ⟨he, hg⟩ => ?_
  subst he
  exact ⟨_, rfl, post_of_same (pa := []) (pv := []) hW' (fun _ _ _ => (trodAll_cons_mk (shut_bool Try.underlying4 _) trodAll_mk0)) (fun sp _ => (trodAll_cons_mk (shut_string Try.underlying9 w0) trodAll_mk0)) (fun _ _ => rfl) rfl
    (hg.frame _) hg.2.1 (ok_one (by kernel_rfl) rfl (okWide_bool_mk Try.underlying4 _))⟩

theorem over : Rows.fnNewDetailsFreshEachCallRow.holds Try.pinned (OpenSpec.ofChange Rows.fnNewDetailsFreshEachCallSpec) :=
  OpenClaim.holds_of_wide 3 Try.f3 rfl rfl rfl rfl rfl rfl rfl ⟨rfl, rfl, rfl, rfl, rfl⟩ rfl rfl rfl rfl rfl (by kernel_rfl) Try.func3 (by kernel_rfl)
    (of_decide_eq_true (by kernel_rfl)) (by unfold Func.isWrapper; first | (rw [if_pos (by decide +kernel)]; kernel_rfl) | (rw [if_neg (by decide +kernel)]; exact ⟨rfl, rfl⟩))
    (fun os started H enc _ => lifted os started H enc)

/-- ████ THE STATEMENT ████ -/
theorem proved : Rows.FnNewDetailsFreshEachCallSaid :=
  over
end Go.Proofs.Qxb6612895a.fnNewDetailsFreshEachCall
