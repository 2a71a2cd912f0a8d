/-
  THE LAW FnCollectionPathJoinsAtAnyCut: zzMiddle, the bound on lengths, the law's walk.
-/
import Derived.Test.Qxb6612895aDoorCanon
namespace Go.Proofs.Qxb6612895aDoor
open Go.RowKit
theorem extract_mid (a b c : ByteArray) (i j : Nat) (hi : i = a.size) (hj : j = a.size + b.size) : (a ++ b ++ c).extract i j = b := by
  subst hi; subst hj
  apply ByteArray.ext
  apply Array.toList_inj.1
  rw [ByteArray.data_extract, Array.toList_extract, ByteArray.data_append, ByteArray.data_append, Array.toList_append, Array.toList_append, List.extract, List.append_assoc]
  rw [show a.size = a.data.toList.length from (llen a).symm, List.drop_left, show a.data.toList.length + b.size - a.data.toList.length = b.data.toList.length by rw [llen b]; omega, List.take_left]
set_option maxHeartbeats 400000 in
theorem mid_any (s : ByteArray) (w : World) (hs : s.size ≤ 1048576) :
    Calls Tryd.prog 9 #[.string (colB s)] w fun e w' => e = .returned (.tuple #[.string (encB s), .bool true]) ∧ w' = w := by
  have hsz := colB_size s
  have hEs : (encB s).size ≤ 3145728 := by have := (encB_le s).2; omega
  have x1 : (colB s).extract 0 40 = preB := by
    rw [show colB s = ByteArray.empty ++ preB ++ (encB s ++ sufB) by unfold colB; rw [ByteArray.empty_append, ByteArray.append_assoc]]
    exact extract_mid ByteArray.empty preB (encB s ++ sufB) 0 40 rfl rfl
  have x2 : (colB s).extract ((colB s).size - 7) (colB s).size = sufB := by
    rw [hsz, show colB s = preB ++ encB s ++ sufB ++ ByteArray.empty by unfold colB; rw [ByteArray.append_empty]]
    exact extract_mid (preB ++ encB s) sufB ByteArray.empty _ _ (by rw [ByteArray.size_append, preB_size]; omega) (by rw [ByteArray.size_append, preB_size, sufB_size]; omega)
  have x3 : (colB s).extract 40 ((colB s).size - 7) = encB s := by
    rw [hsz]
    exact extract_mid preB (encB s) sufB _ _ rfl (by rw [preB_size]; omega)
  obtain ⟨P, HP⟩ : ∃ P, Hid (P = colB s) := ⟨_, rfl⟩
  rw [← HP.out] at hsz x1 x2 x3 ⊢
  have h1 : 47 ≤ P.size := by omega
  have h2 : P.size ≤ 3145775 := by omega
  have y1 : (P.extract 0 40).toList = [47, 97, 112, 105, 115, 47, 99, 111, 111, 114, 100, 105, 110, 97, 116, 105, 111, 110, 46, 107, 56, 115, 46, 105, 111, 47, 118, 49, 47, 110, 97, 109, 101, 115, 112, 97, 99, 101, 115, 47] := by rw [x1]; decide +kernel
  have y2 : (P.extract (P.size - 7) P.size).toList = [47, 108, 101, 97, 115, 101, 115] := by rw [x2]; decide +kernel
  have X3 : Hid (P.extract 40 (P.size - 7) = encB s) := x3
  clear hsz x1 x2 x3
  go_enter Tryd.func9, Tryd.ntmps9
  go_wp2
  go_ret2
  exact ⟨by rw [← X3.out]; rfl, rfl⟩
set_option maxHeartbeats 400000 in
theorem bytes2_yes (s t : ByteArray) (w : World) (hs : s.size + t.size ≤ 1048576) :
    Calls Tryd.prog 8 #[.string s, .string t] w fun e w' => e = .returned (.bool true) ∧ w' = w := by
  go_enter Tryd.func8, Tryd.ntmps8
  go_wp2
  go_ret
  exact ⟨rfl, rfl⟩
set_option maxHeartbeats 400000 in
theorem bytes2_no (s t : ByteArray) (w : World) (hs : ¬ s.size + t.size ≤ 1048576) (hs1 : s.size ≤ maxLen) (ht : t.size ≤ maxLen) :
    Calls Tryd.prog 8 #[.string s, .string t] w fun e w' => e = .returned (.bool false) ∧ w' = w := by
  unfold maxLen at hs1 ht
  go_enter Tryd.func8, Tryd.ntmps8
  go_wp2
  all_goals go_ret
  all_goals exact ⟨rfl, rfl⟩
theorem Below.step {w a b : World} (h : Below w.heap.size w a) (k : Below a.heap.size a b) : Below w.heap.size w b := h.trans (k.mono h.size)
set_option maxHeartbeats 1000000 in
theorem joins_main (a b : ByteArray) (w : World) (hab : a.size + b.size ≤ 1048576) (ha : a.size ≤ 524288) (hb : b.size ≤ 524288) (ht : Tab w) (hp : 0 < w.heap.size) :
    Calls Tryd.prog 3 #[.string a, .string b] w fun e w' => e = .returned (.bool true) ∧ Below w.heap.size w w' := by
  have hEa : (encB a).size ≤ 3145728 := by have := (encB_le a).2; omega
  have hEb : (encB b).size ≤ 3145728 := by have := (encB_le b).2; omega
  have hb1 := bytes2_yes a b w hab
  go_enter Tryd.func3, Tryd.ntmps3
  go_wp2_with fail
  refine hb1.mono ?_
  rintro e w' ⟨rfl, rfl⟩
  clear hb1
  go_wp2_with fail
  refine (col_any a _ (by omega) ht hp).mono ?_
  rintro e w1 ⟨rfl, hbl1⟩
  have HB1 : Hid (Below w'.heap.size w' w1) := hbl1
  have ht1 := ht.below hbl1 hp
  have hp1 : 0 < w1.heap.size := Nat.lt_of_lt_of_le hp hbl1.size
  clear hbl1
  go_wp2_with fail
  refine (mid_any a _ (by omega)).mono ?_
  rintro e w2 ⟨rfl, rfl⟩
  go_wp2_with fail
  refine (col_any b _ (by omega) ht1 hp1).mono ?_
  rintro e w3 ⟨rfl, hbl2⟩
  have HB2 : Hid (Below w2.heap.size w2 w3) := hbl2
  have ht3 := ht1.below hbl2 hp1
  have hp3 : 0 < w3.heap.size := Nat.lt_of_lt_of_le hp1 hbl2.size
  clear hbl2
  go_wp2_with fail
  refine (mid_any b _ (by omega)).mono ?_
  rintro e w4 ⟨rfl, rfl⟩
  go_wp2_with fail
  refine (col_any (a ++ b) _ (by rw [ByteArray.size_append]; omega) ht3 hp3).mono ?_
  rintro e w5 ⟨rfl, hbl3⟩
  have HB3 : Hid (Below w4.heap.size w4 w5) := hbl3
  clear hbl3
  go_wp2_with fail
  refine (mid_any (a ++ b) _ (by rw [ByteArray.size_append]; omega)).mono ?_
  rintro e w6 ⟨rfl, rfl⟩
  rw [encB_append]
  go_wp2_with fail
  refine (canon_any a _ (by omega)).mono ?_
  rintro e w7 ⟨rfl, rfl⟩
  go_wp2_with fail
  refine (canon_any b _ (by omega)).mono ?_
  rintro e w8 ⟨rfl, rfl⟩
  go_wp2_with fail
  go_ret
  exact ⟨rfl, Below.step (Below.step HB1.out HB2.out) HB3.out⟩
set_option maxHeartbeats 1000000 in
theorem joins_else (a b : ByteArray) (w : World) (ha : a.size ≤ maxLen) (hb : b.size ≤ maxLen) (h : ¬ (a.size + b.size ≤ 1048576 ∧ a.size ≤ 524288 ∧ b.size ≤ 524288)) :
    Calls Tryd.prog 3 #[.string a, .string b] w fun e w' => e = .returned (.bool true) ∧ w' = w := by
  by_cases hab : a.size + b.size ≤ 1048576
  · have hb1 := bytes2_yes a b w hab
    unfold maxLen at ha hb
    by_cases h1 : a.size ≤ 524288
    · have h2 : ¬ b.size ≤ 524288 := by omega
      clear h
      go_enter Tryd.func3, Tryd.ntmps3
      go_wp2_with (go_at_call 8; refine hb1.mono ?_; rintro e w' ⟨rfl, rfl⟩)
      go_ret
      exact ⟨rfl, rfl⟩
    · clear h
      go_enter Tryd.func3, Tryd.ntmps3
      go_wp2_with (go_at_call 8; refine hb1.mono ?_; rintro e w' ⟨rfl, rfl⟩)
      go_ret
      exact ⟨rfl, rfl⟩
  · have hb1 := bytes2_no a b w hab ha hb
    clear h
    go_enter Tryd.func3, Tryd.ntmps3
    go_wp2_with (go_at_call 8; refine hb1.mono ?_; rintro e w' ⟨rfl, rfl⟩)
    go_ret
    exact ⟨rfl, rfl⟩
theorem joins_walk (a b : ByteArray) (w : World) (ha : a.size ≤ maxLen) (hb : b.size ≤ maxLen) (ht : Tab w) (hp : 0 < w.heap.size) :
    Calls Tryd.prog 3 #[.string a, .string b] w fun e w' => e = .returned (.bool true) ∧ Below w.heap.size w w' := by
  by_cases h : a.size + b.size ≤ 1048576 ∧ a.size ≤ 524288 ∧ b.size ≤ 524288
  · exact joins_main a b w h.1 h.2.1 h.2.2 ht hp
  · refine (joins_else a b w ha hb h).mono ?_
    rintro e w' ⟨rfl, rfl⟩
    exact ⟨rfl, Below.refl _ _⟩
end Go.Proofs.Qxb6612895aDoor
