/-
  THE LAW FnCollectionPathSegmentsAndDistinct: its walk.
-/
import Derived.Test.Qxb6612895aDoorSeg
namespace Go.Proofs.Qxb6612895aDoor
open Go.RowKit
set_option maxHeartbeats 400000 in
theorem bytesS_yes (s t : ByteArray) (w : World) (hs : s.size + t.size ≤ 1048576) :
    Calls Tryd.prog 12 #[.string s, .string t] w fun e w' => e = .returned (.bool true) ∧ w' = w := by
  go_enter Tryd.func12, Tryd.ntmps12
  go_wp2
  go_ret
  exact ⟨rfl, rfl⟩
set_option maxHeartbeats 400000 in
theorem bytesS_no (s t : ByteArray) (w : World) (hs : ¬ s.size + t.size ≤ 1048576) (hs1 : s.size ≤ maxLen) (ht : t.size ≤ maxLen) :
    Calls Tryd.prog 12 #[.string s, .string t] w fun e w' => e = .returned (.bool false) ∧ w' = w := by
  unfold maxLen at hs1 ht
  go_enter Tryd.func12, Tryd.ntmps12
  go_wp2
  all_goals go_ret
  all_goals exact ⟨rfl, rfl⟩

theorem beq_false_of {a b : ByteArray} (h : a ≠ b) : (a.toList == b.toList) = false := by
  rw [beq_eq_false_iff_ne, ByteArray.toList_eq, ByteArray.toList_eq]
  intro e
  exact h (ByteArray.ext (Array.toList_inj.1 e))
theorem colB_inj {a b : ByteArray} (h : colB a = colB b) : a = b := by
  have h1 := congrArg (fun x => x.data.toList) h
  simp only [colB_list] at h1
  have h2 := List.append_cancel_left h1
  have h3 := List.append_cancel_right h2
  exact ByteArray.ext (Array.toList_inj.1 (enc_inj h3))
set_option maxHeartbeats 1000000 in
theorem segs_main (a b : ByteArray) (w : World) (hab : a.size + b.size ≤ 1048576) (ha : a.size ≤ 524288) (hb : b.size ≤ 524288) (ht : Tab w) (hp : 0 < w.heap.size) :
    Calls Tryd.prog 4 #[.string a, .string b] w fun e w' => e = .returned (.bool true) ∧ Below w.heap.size w w' := by
  have hEa : (encB a).size ≤ 3145728 := by have := (encB_le a).2; omega
  have hEb : (encB b).size ≤ 3145728 := by have := (encB_le b).2; omega
  have hb1 := bytesS_yes a b w hab
  have hca := fun w1 h1 h2 => col_any a w1 (by omega) h1 h2
  have hcb := fun w1 h1 h2 => col_any b w1 (by omega) h1 h2
  have hsa : (colB a).size ≤ 8388608 := by rw [colB_size]; omega
  have hsb : (colB b).size ≤ 8388608 := by rw [colB_size]; omega
  have hna := fun w1 => count_any (colB a) w1 hsa
  have hnb := fun w1 => count_any (colB b) w1 hsb
  have hfa := fun w1 => frame_any (colB a) _ _ (colB_list a) (fun h => absurd h (by decide)) w1 hsa
  have hfb := fun w1 => frame_any (colB b) _ _ (colB_list b) (fun h => absurd h (by decide)) w1 hsb
  have hga : ∀ w1, Calls Tryd.prog 15 #[.string (colB a), .int .i64 5] w1 fun e w' => e = .returned (.string (encB a)) ∧ w' = w1 := fun w1 => segment_any (colB a) _ _ _ 5 5 rfl (by decide) w1 hsa (by rw [colB_list]; exact seg5 _ _)
  have hgb : ∀ w1, Calls Tryd.prog 15 #[.string (colB b), .int .i64 5] w1 fun e w' => e = .returned (.string (encB b)) ∧ w' = w1 := fun w1 => segment_any (colB b) _ _ _ 5 5 rfl (by decide) w1 hsb (by rw [colB_list]; exact seg5 _ _)
  simp only [cnt_col] at hna hnb
  have hne : a ≠ b → ((colB a).toList == (colB b).toList) = false := fun h => beq_false_of fun e => h (colB_inj e)
  have hne' : a ≠ b → (a.toList == b.toList) = false := fun h => beq_false_of h
  have hsame : a = b → colB a = colB b := fun h => by rw [h]
  obtain ⟨P, HP⟩ : ∃ P, Hid (P = colB a) := ⟨_, rfl⟩
  obtain ⟨Q, HQ⟩ : ∃ Q, Hid (Q = colB b) := ⟨_, rfl⟩
  simp only [← HP.out, ← HQ.out] at hca hcb hna hnb hfa hfb hga hgb hne hsame
  clear HP HQ
  have HNE := show Hid (a ≠ b → (P.toList == Q.toList) = false) from hne
  have HNE' := show Hid (a ≠ b → (a.toList == b.toList) = false) from hne'
  have HS := show Hid (a = b → P = Q) from hsame
  clear hne hne' hsame
  go_enter Tryd.func4, Tryd.ntmps4
  go_wp2_with fail
  refine hb1.mono ?_
  rintro e w' ⟨rfl, rfl⟩
  clear hb1
  go_wp2_with fail
  refine (hca _ ht hp).mono ?_
  rintro e w1 ⟨rfl, hbl1⟩
  have HB1 : Hid (Below w'.heap.size w' w1) := hbl1
  have ht1 := ht.below hbl1 hp
  have hq1 : 0 < w1.heap.size := Nat.lt_of_lt_of_le hp hbl1.size
  clear hbl1
  go_wp2_with fail
  refine (hcb w1 ht1 hq1).mono ?_
  rintro e w2 ⟨rfl, hbl2⟩
  have HB2 : Hid (Below w1.heap.size w1 w2) := hbl2
  clear hbl2
  go_wp2_with fail
  refine (hna w2).mono ?_
  rintro e w3 ⟨rfl, rfl⟩
  go_wp2_with fail
  refine (hnb w3).mono ?_
  rintro e w4 ⟨rfl, rfl⟩
  go_wp2_with fail
  refine (hfa w4).mono ?_
  rintro e w5 ⟨rfl, rfl⟩
  go_wp2_with fail
  refine (hfb w5).mono ?_
  rintro e w6 ⟨rfl, rfl⟩
  go_wp2_with fail
  refine (hga w6).mono ?_
  rintro e w7 ⟨rfl, rfl⟩
  go_wp2_with fail
  refine (canon_any a w7 (by omega)).mono ?_
  rintro e w8 ⟨rfl, rfl⟩
  go_wp2_with fail
  refine (hgb w8).mono ?_
  rintro e w9 ⟨rfl, rfl⟩
  go_wp2_with fail
  refine (canon_any b w9 (by omega)).mono ?_
  rintro e w10 ⟨rfl, rfl⟩
  by_cases hh : a = b
  · have hPQ := HS.out hh
    subst hPQ
    subst hh
    go_wp2_with fail
    go_ret
    exact ⟨rfl, Below.step HB1.out HB2.out⟩
  · have n1 := HNE.out hh
    have n2 := HNE'.out hh
    go_wp2_with fail
    go_ret
    exact ⟨rfl, Below.step HB1.out HB2.out⟩
set_option maxHeartbeats 1000000 in
theorem segs_else (a b : ByteArray) (w : World) (ha : a.size ≤ maxLen) (hb : b.size ≤ maxLen) (h : ¬ (a.size + b.size ≤ 1048576 ∧ a.size ≤ 524288 ∧ b.size ≤ 524288)) :
    Calls Tryd.prog 4 #[.string a, .string b] w fun e w' => e = .returned (.bool true) ∧ w' = w := by
  by_cases hab : a.size + b.size ≤ 1048576
  · have hb1 := bytesS_yes a b w hab
    unfold maxLen at ha hb
    by_cases h1 : a.size ≤ 524288
    · have h2 : ¬ b.size ≤ 524288 := by omega
      clear h
      go_enter Tryd.func4, Tryd.ntmps4
      go_wp2_with (go_at_call 12; refine hb1.mono ?_; rintro e w' ⟨rfl, rfl⟩)
      go_ret
      exact ⟨rfl, rfl⟩
    · clear h
      go_enter Tryd.func4, Tryd.ntmps4
      go_wp2_with (go_at_call 12; refine hb1.mono ?_; rintro e w' ⟨rfl, rfl⟩)
      go_ret
      exact ⟨rfl, rfl⟩
  · have hb1 := bytesS_no a b w hab ha hb
    clear h
    go_enter Tryd.func4, Tryd.ntmps4
    go_wp2_with (go_at_call 12; refine hb1.mono ?_; rintro e w' ⟨rfl, rfl⟩)
    go_ret
    exact ⟨rfl, rfl⟩
theorem segs_walk (a b : ByteArray) (w : World) (ha : a.size ≤ maxLen) (hb : b.size ≤ maxLen) (ht : Tab w) (hp : 0 < w.heap.size) :
    Calls Tryd.prog 4 #[.string a, .string b] w fun e w' => e = .returned (.bool true) ∧ Below w.heap.size w w' := by
  by_cases h : a.size + b.size ≤ 1048576 ∧ a.size ≤ 524288 ∧ b.size ≤ 524288
  · exact segs_main a b w h.1 h.2.1 h.2.2 ht hp
  · refine (segs_else a b w ha hb h).mono ?_
    rintro e w' ⟨rfl, rfl⟩
    exact ⟨rfl, Below.refl _ _⟩
end Go.Proofs.Qxb6612895aDoor
