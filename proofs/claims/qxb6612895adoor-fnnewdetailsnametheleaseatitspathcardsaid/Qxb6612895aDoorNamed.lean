/-
  THE LAW FnNewDetailsNameTheLeaseAtItsPath: newDetails, zzGroupOf at the one constant, the law's walk.
-/
import Derived.Test.Qxb6612895aDoorSegs
import Derived.BigQuiet
import Derived.Deep.QuietTactic
import Derived.Deep.RegionWith
import Derived.Laws.Pointers
namespace Go.Proofs.Qxb6612895aDoor
open Go.RowKit
set_option maxHeartbeats 400000 in
theorem nd_any (s : ByteArray) (w : World) :
    Calls Tryd.prog 25 #[.string s] w fun e w' => e = .returned (.pointer (some ⟨w.heap.size, 0, none⟩)) ∧ w' = w.alloc (.cells #[.string s, .string ⟨#[99, 111, 111, 114, 100, 105, 110, 97, 116, 105, 111, 110, 46, 107, 56, 115, 46, 105, 111]⟩, .string ⟨#[108, 101, 97, 115, 101, 115]⟩, .string ⟨#[]⟩] 34) := by
  go_enter Tryd.func25, Tryd.ntmps25
  go_wp2
  go_ret
  exact ⟨rfl, rfl⟩
set_option maxHeartbeats 400000 in
theorem znd_any (s : ByteArray) (w : World) :
    Calls Tryd.prog 20 #[.string s] w fun e w' => e = .returned (.pointer (some ⟨w.heap.size, 0, none⟩)) ∧ w' = w.alloc (.cells #[.string s, .string ⟨#[99, 111, 111, 114, 100, 105, 110, 97, 116, 105, 111, 110, 46, 107, 56, 115, 46, 105, 111]⟩, .string ⟨#[108, 101, 97, 115, 101, 115]⟩, .string ⟨#[]⟩] 34) := by
  go_enter Tryd.func20, Tryd.ntmps20
  go_wp2_with (go_at_call 25; refine (nd_any _ _).mono ?_; rintro e w' ⟨rfl, rfl⟩)
  go_ret
  exact ⟨rfl, rfl⟩
set_option maxHeartbeats 400000 in
theorem group_any (w : World) :
    Calls Tryd.prog 21 #[.string ⟨#[99, 111, 111, 114, 100, 105, 110, 97, 116, 105, 111, 110, 46, 107, 56, 115, 46, 105, 111, 47, 118, 49]⟩] w fun e w' => e = .returned (.string ⟨#[99, 111, 111, 114, 100, 105, 110, 97, 116, 105, 111, 110, 46, 107, 56, 115, 46, 105, 111]⟩) ∧ w' = w := by
  go_enter Tryd.func21, Tryd.ntmps21
  go_wp2
  refine wp_loop_rounds 3 ?_
  rw [rounds_succ]
  go_wp2
  rw [rounds_succ]
  go_wp2
  rw [rounds_succ]
  go_wp2
  go_ret
  exact ⟨rfl, rfl⟩
set_option maxHeartbeats 400000 in
theorem bytesN_yes (s t : ByteArray) (w : World) (hs : s.size + t.size ≤ 1048576) :
    Calls Tryd.prog 19 #[.string s, .string t] w fun e w' => e = .returned (.bool true) ∧ w' = w := by
  go_enter Tryd.func19, Tryd.ntmps19
  go_wp2
  go_ret
  exact ⟨rfl, rfl⟩
set_option maxHeartbeats 400000 in
theorem bytesN_no (s t : ByteArray) (w : World) (hs : ¬ s.size + t.size ≤ 1048576) (hs1 : s.size ≤ maxLen) (ht : t.size ≤ maxLen) :
    Calls Tryd.prog 19 #[.string s, .string t] w fun e w' => e = .returned (.bool false) ∧ w' = w := by
  unfold maxLen at hs1 ht
  go_enter Tryd.func19, Tryd.ntmps19
  go_wp2
  all_goals go_ret
  all_goals exact ⟨rfl, rfl⟩

set_option maxHeartbeats 1000000 in
theorem named_main (a b : ByteArray) (w : World) (hab : a.size + b.size ≤ 1048576) (ha : a.size ≤ 524288) (hb : b.size ≤ 524288) (ht : Tab w) (hp : 0 < w.heap.size) :
    Calls Tryd.prog 7 #[.string a, .string b] w fun e w' => e = .returned (.bool true) ∧ Below w.heap.size w w' := by
  have hEa : (encB a).size ≤ 3145728 := by have := (encB_le a).2; omega
  have hEb : (encB b).size ≤ 3145728 := by have := (encB_le b).2; omega
  have hb1 := bytesN_yes a b w hab
  have hca := fun w1 h1 h2 => path_any a b w1 (by omega) (by omega) h1 h2
  have hsa : (pathB a b).size ≤ 8388608 := by rw [pathB_size]; omega
  have hna := fun w1 => count_any (pathB a b) w1 hsa
  have hg2 : ∀ w1, Calls Tryd.prog 15 #[.string (pathB a b), .int .i64 2] w1 fun e w' => e = .returned (.string ⟨#[99, 111, 111, 114, 100, 105, 110, 97, 116, 105, 111, 110, 46, 107, 56, 115, 46, 105, 111]⟩) ∧ w' = w1 := fun w1 => segment_any (pathB a b) _ _ _ 2 2 rfl (by decide) w1 hsa (by rw [pathB_list]; exact seg2 _)
  have hg6 : ∀ w1, Calls Tryd.prog 15 #[.string (pathB a b), .int .i64 6] w1 fun e w' => e = .returned (.string ⟨#[108, 101, 97, 115, 101, 115]⟩) ∧ w' = w1 := fun w1 => segment_any (pathB a b) _ _ _ 6 6 rfl (by decide) w1 hsa (by rw [pathB_list]; exact seg6 _ _ (fun _ => rfl))
  have hg7 : ∀ w1, Calls Tryd.prog 15 #[.string (pathB a b), .int .i64 7] w1 fun e w' => e = .returned (.string (encB b)) ∧ w' = w1 := fun w1 => segment_any (pathB a b) _ _ _ 7 7 rfl (by decide) w1 hsa (by rw [pathB_list]; exact seg7 _ _)
  have hgr := group_any
  have hcn := fun w1 => canon_any b w1 (by omega)
  simp only [cnt_path] at hna
  obtain ⟨P, HP⟩ : ∃ P, Hid (P = pathB a b) := ⟨_, rfl⟩
  simp only [← HP.out] at hca hna hg2 hg6 hg7
  clear HP
  go_enter Tryd.func7, Tryd.ntmps7
  go_wp2_with fail
  refine hb1.mono ?_
  rintro e w' ⟨rfl, rfl⟩
  clear hb1
  go_wp2_with fail
  refine (znd_any b w').mono ?_
  rintro e w1 ⟨rfl, rfl⟩
  go_wp2_with fail
  have hb0 : Below w'.heap.size w' (w'.alloc (.cells #[.string b, .string ⟨#[99, 111, 111, 114, 100, 105, 110, 97, 116, 105, 111, 110, 46, 107, 56, 115, 46, 105, 111]⟩, .string ⟨#[108, 101, 97, 115, 101, 115]⟩, .string ⟨#[]⟩] 34)) := (Below.refl _ _).alloc (Nat.le_refl _) _
  refine (hca _ (ht.below hb0 hp) (Nat.lt_of_lt_of_le hp hb0.size)).mono ?_
  rintro e w2 ⟨rfl, hbl2⟩
  have k0 : w2.cell? ⟨w'.heap.size, 0, none⟩ = some (.string b) := (hbl2.cell (by simp)).trans (by simp)
  have k1 : w2.cell? ⟨w'.heap.size, 1, none⟩ = some (.string ⟨#[99, 111, 111, 114, 100, 105, 110, 97, 116, 105, 111, 110, 46, 107, 56, 115, 46, 105, 111]⟩) := (hbl2.cell (by simp)).trans (by simp)
  have k2 : w2.cell? ⟨w'.heap.size, 2, none⟩ = some (.string ⟨#[108, 101, 97, 115, 101, 115]⟩) := (hbl2.cell (by simp)).trans (by simp)
  have k3 : w2.cell? ⟨w'.heap.size, 3, none⟩ = some (.string ⟨#[]⟩) := (hbl2.cell (by simp)).trans (by simp)
  have HB2 : Hid (Below w'.heap.size w' w2) := Below.step hb0 hbl2
  clear hbl2 hb0
  go_wp2_with fail
  refine (hna w2).mono ?_
  rintro e w3 ⟨rfl, rfl⟩
  go_wp2_with fail
  go_quiet (first | (go_at_call 21; exact Calls.quiet_of_same (hgr _)) | (go_at_call 11; exact Calls.quiet_of_same (hcn _)) | (go_at_call_of 15 (Value.int .i64 2); exact Calls.quiet_of_same (hg2 _)) | (go_at_call_of 15 (Value.int .i64 6); exact Calls.quiet_of_same (hg6 _)) | (go_at_call_of 15 (Value.int .i64 7); exact Calls.quiet_of_same (hg7 _)))
  go_wp2
  go_ret
  exact ⟨rfl, ⟨HB2.out.os, HB2.out.tape, HB2.out.output, HB2.out.size, HB2.out.block⟩⟩
set_option maxHeartbeats 1000000 in
theorem named_else (a b : ByteArray) (w : World) (ha : a.size ≤ maxLen) (hb : b.size ≤ maxLen) (h : ¬ (a.size + b.size ≤ 1048576 ∧ a.size ≤ 524288 ∧ b.size ≤ 524288)) :
    Calls Tryd.prog 7 #[.string a, .string b] w fun e w' => e = .returned (.bool true) ∧ w' = w := by
  by_cases hab : a.size + b.size ≤ 1048576
  · have hb1 := bytesN_yes a b w hab
    unfold maxLen at ha hb
    by_cases h1 : a.size ≤ 524288
    · have h2 : ¬ b.size ≤ 524288 := by omega
      clear h
      go_enter Tryd.func7, Tryd.ntmps7
      go_wp2_with (go_at_call 19; refine hb1.mono ?_; rintro e w' ⟨rfl, rfl⟩)
      go_ret
      exact ⟨rfl, rfl⟩
    · clear h
      go_enter Tryd.func7, Tryd.ntmps7
      go_wp2_with (go_at_call 19; refine hb1.mono ?_; rintro e w' ⟨rfl, rfl⟩)
      go_ret
      exact ⟨rfl, rfl⟩
  · have hb1 := bytesN_no a b w hab ha hb
    clear h
    go_enter Tryd.func7, Tryd.ntmps7
    go_wp2_with (go_at_call 19; refine hb1.mono ?_; rintro e w' ⟨rfl, rfl⟩)
    go_ret
    exact ⟨rfl, rfl⟩
theorem named_walk (a b : ByteArray) (w : World) (ha : a.size ≤ maxLen) (hb : b.size ≤ maxLen) (ht : Tab w) (hp : 0 < w.heap.size) :
    Calls Tryd.prog 7 #[.string a, .string b] w fun e w' => e = .returned (.bool true) ∧ Below w.heap.size w w' := by
  by_cases h : a.size + b.size ≤ 1048576 ∧ a.size ≤ 524288 ∧ b.size ≤ 524288
  · exact named_main a b w h.1 h.2.1 h.2.2 ht hp
  · refine (named_else a b w ha hb h).mono ?_
    rintro e w' ⟨rfl, rfl⟩
    exact ⟨rfl, Below.refl _ _⟩
end Go.Proofs.Qxb6612895aDoor
