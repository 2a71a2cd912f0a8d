/-
  THE LAW FnPathLiesUnderItsCollection: its walk.
-/
import Derived.Test.Qxb6612895aDoorJoins
namespace Go.Proofs.Qxb6612895aDoor
open Go.RowKit
set_option maxHeartbeats 400000 in
theorem bytesU_yes (s t : ByteArray) (w : World) (hs : s.size + t.size ≤ 1048576) :
    Calls Tryd.prog 16 #[.string s, .string t] w fun e w' => e = .returned (.bool true) ∧ w' = w := by
  go_enter Tryd.func16, Tryd.ntmps16
  go_wp2
  go_ret
  exact ⟨rfl, rfl⟩
set_option maxHeartbeats 400000 in
theorem bytesU_no (s t : ByteArray) (w : World) (hs : ¬ s.size + t.size ≤ 1048576) (hs1 : s.size ≤ maxLen) (ht : t.size ≤ maxLen) :
    Calls Tryd.prog 16 #[.string s, .string t] w fun e w' => e = .returned (.bool false) ∧ w' = w := by
  unfold maxLen at hs1 ht
  go_enter Tryd.func16, Tryd.ntmps16
  go_wp2
  all_goals go_ret
  all_goals exact ⟨rfl, rfl⟩

theorem path_at (s t : ByteArray) (h : (colB s).size < (pathB s t).size) : ((pathB s t)[(colB s).size]'h).toNat = 47 := by
  rw [getB (pathB s t) _ h 47]
  · rfl
  · show (colB s ++ slashB ++ encB t).data.toList[(colB s).size]? = _
    rw [ByteArray.data_append, ByteArray.data_append, Array.toList_append, Array.toList_append, List.append_assoc, ← llen (colB s), List.getElem?_append_right (Nat.le_refl _)]
    simp [slashB]
set_option maxHeartbeats 1000000 in
theorem under_main (a b : ByteArray) (w : World) (hab : a.size + b.size ≤ 1048576) (ha : a.size ≤ 524288) (hb : b.size ≤ 524288) (ht : Tab w) (hp : 0 < w.heap.size) :
    Calls Tryd.prog 5 #[.string a, .string b] w fun e w' => e = .returned (.bool true) ∧ Below w.heap.size w w' := by
  have hEa : (encB a).size ≤ 3145728 := by have := (encB_le a).2; omega
  have hEb : (encB b).size ≤ 3145728 := by have := (encB_le b).2; omega
  have hb1 := bytesU_yes a b w hab
  have hpz := pathB_size a b
  have hcz := colB_size a
  have x1 : (pathB a b).extract 0 (colB a).size = colB a := by
    rw [show pathB a b = ByteArray.empty ++ colB a ++ (slashB ++ encB b) by unfold pathB; rw [ByteArray.empty_append, ByteArray.append_assoc]]
    exact extract_mid ByteArray.empty (colB a) (slashB ++ encB b) _ _ rfl (by rw [ByteArray.size_empty]; omega)
  have x2 : (pathB a b).extract ((colB a).size + 1) (pathB a b).size = encB b := by
    rw [hpz, show pathB a b = colB a ++ slashB ++ encB b ++ ByteArray.empty by unfold pathB; rw [ByteArray.append_empty]]
    exact extract_mid (colB a ++ slashB) (encB b) ByteArray.empty _ _ (by rw [ByteArray.size_append, slashB_size]) (by rw [ByteArray.size_append, slashB_size, hcz]; omega)
  have x3 := path_at a b
  have hc1 := col_any a w (by omega) ht hp
  have hp1 := fun w1 h1 h2 => path_any a b w1 (by omega) (by omega) h1 h2
  have hm1 := fun w1 => mid_any a w1 (by omega)
  obtain ⟨C, HC⟩ : ∃ C, Hid (C = colB a) := ⟨_, rfl⟩
  obtain ⟨P, HP⟩ : ∃ P, Hid (P = pathB a b) := ⟨_, rfl⟩
  rw [← HC.out] at hcz x1 x2 hc1 x3
  simp only [← HC.out] at hm1
  rw [← HP.out] at hpz x1 x2
  simp only [← HP.out] at hp1 x3
  have hlt : C.size < P.size := by omega
  have hCb : C.size ≤ 3145775 := by omega
  have hPb : P.size ≤ 6291504 := by omega
  clear hcz hpz
  go_enter Tryd.func5, Tryd.ntmps5
  go_wp2_with fail
  refine hb1.mono ?_
  rintro e w' ⟨rfl, rfl⟩
  clear hb1
  go_wp2_with fail
  refine hc1.mono ?_
  rintro e w1 ⟨rfl, hbl1⟩
  have HB1 : Hid (Below w'.heap.size w' w1) := hbl1
  have ht1 := ht.below hbl1 hp
  have hq1 : 0 < w1.heap.size := Nat.lt_of_lt_of_le hp hbl1.size
  clear hbl1 hc1
  go_wp2_with fail
  refine (hp1 w1 ht1 hq1).mono ?_
  rintro e w2 ⟨rfl, hbl2⟩
  have HB2 : Hid (Below w1.heap.size w1 w2) := hbl2
  clear hbl2 hp1
  go_wp2_with fail
  refine (hm1 w2).mono ?_
  rintro e w3 ⟨rfl, rfl⟩
  go_wp2_with fail
  refine (canon_any a _ (by omega)).mono ?_
  rintro e w4 ⟨rfl, rfl⟩
  go_wp2_with fail
  refine (canon_any b _ (by omega)).mono ?_
  rintro e w5 ⟨rfl, rfl⟩
  go_wp2_with fail
  go_ret
  exact ⟨rfl, Below.step HB1.out HB2.out⟩
set_option maxHeartbeats 1000000 in
theorem under_else (a b : ByteArray) (w : World) (ha : a.size ≤ maxLen) (hb : b.size ≤ maxLen) (h : ¬ (a.size + b.size ≤ 1048576 ∧ a.size ≤ 524288 ∧ b.size ≤ 524288)) :
    Calls Tryd.prog 5 #[.string a, .string b] w fun e w' => e = .returned (.bool true) ∧ w' = w := by
  by_cases hab : a.size + b.size ≤ 1048576
  · have hb1 := bytesU_yes a b w hab
    unfold maxLen at ha hb
    by_cases h1 : a.size ≤ 524288
    · have h2 : ¬ b.size ≤ 524288 := by omega
      clear h
      go_enter Tryd.func5, Tryd.ntmps5
      go_wp2_with (go_at_call 16; refine hb1.mono ?_; rintro e w' ⟨rfl, rfl⟩)
      go_ret
      exact ⟨rfl, rfl⟩
    · clear h
      go_enter Tryd.func5, Tryd.ntmps5
      go_wp2_with (go_at_call 16; refine hb1.mono ?_; rintro e w' ⟨rfl, rfl⟩)
      go_ret
      exact ⟨rfl, rfl⟩
  · have hb1 := bytesU_no a b w hab ha hb
    clear h
    go_enter Tryd.func5, Tryd.ntmps5
    go_wp2_with (go_at_call 16; refine hb1.mono ?_; rintro e w' ⟨rfl, rfl⟩)
    go_ret
    exact ⟨rfl, rfl⟩
theorem under_walk (a b : ByteArray) (w : World) (ha : a.size ≤ maxLen) (hb : b.size ≤ maxLen) (ht : Tab w) (hp : 0 < w.heap.size) :
    Calls Tryd.prog 5 #[.string a, .string b] w fun e w' => e = .returned (.bool true) ∧ Below w.heap.size w w' := by
  by_cases h : a.size + b.size ≤ 1048576 ∧ a.size ≤ 524288 ∧ b.size ≤ 524288
  · exact under_main a b w h.1 h.2.1 h.2.2 ht hp
  · refine (under_else a b w ha hb h).mono ?_
    rintro e w' ⟨rfl, rfl⟩
    exact ⟨rfl, Below.refl _ _⟩
end Go.Proofs.Qxb6612895aDoor
