/-
  THE LAW FnPathPairsAreDistinct: its walk.
-/
import Derived.Test.Qxb6612895aDoorSegs
namespace Go.Proofs.Qxb6612895aDoor
open Go.RowKit
theorem pathB_inj {a b c d : ByteArray} (h : pathB a b = pathB c d) : a = c ∧ b = d := by
  have h1 := congrArg (fun x => x.data.toList) h
  simp only [pathB_list] at h1
  have h2 := List.append_cancel_left h1
  have e : ∀ r : List UInt8, sufL ++ r = 47 :: ([108, 101, 97, 115, 101, 115] ++ r) := fun _ => rfl
  rw [e, e] at h2
  obtain ⟨h3, h4⟩ := split_slash (enc_slash _) (enc_slash _) h2
  have h5 := List.append_cancel_left h4
  have h6 : enc b.data.toList = enc d.data.toList := by simpa using h5
  exact ⟨ByteArray.ext (Array.toList_inj.1 (enc_inj h3)), ByteArray.ext (Array.toList_inj.1 (enc_inj h6))⟩
set_option maxHeartbeats 1000000 in
theorem bytes4_yes (s t u v : ByteArray) (w : World) (hs : s.size + t.size + u.size + v.size ≤ 1048576) :
    Calls Tryd.prog 18 #[.string s, .string t, .string u, .string v] w fun e w' => e = .returned (.bool true) ∧ w' = w := by
  go_enter Tryd.func18, Tryd.ntmps18
  go_wp2
  go_ret
  exact ⟨rfl, rfl⟩
set_option maxHeartbeats 1000000 in
theorem bytes4_no (s t u v : ByteArray) (w : World) (hs : ¬ s.size + t.size + u.size + v.size ≤ 1048576) (hs1 : s.size ≤ maxLen) (ht : t.size ≤ maxLen) (hu : u.size ≤ maxLen) (hv : v.size ≤ maxLen) :
    Calls Tryd.prog 18 #[.string s, .string t, .string u, .string v] w fun e w' => e = .returned (.bool false) ∧ w' = w := by
  unfold maxLen at hs1 ht hu hv
  go_enter Tryd.func18, Tryd.ntmps18
  go_wp2
  all_goals go_ret
  all_goals exact ⟨rfl, rfl⟩
set_option maxHeartbeats 1000000 in
theorem pairs_main (a b c d : ByteArray) (w : World) (hab : a.size + b.size + c.size + d.size ≤ 1048576) (ha : a.size ≤ 262144) (hb : b.size ≤ 262144) (hc : c.size ≤ 262144) (hd : d.size ≤ 262144) (ht : Tab w) (hp : 0 < w.heap.size) :
    Calls Tryd.prog 6 #[.string a, .string b, .string c, .string d] w fun e w' => e = .returned (.bool true) ∧ Below w.heap.size w w' := by
  have hEa : (encB a).size ≤ 1048576 := by have := (encB_le a).2; omega
  have hEb : (encB b).size ≤ 1048576 := by have := (encB_le b).2; omega
  have hEc : (encB c).size ≤ 1048576 := by have := (encB_le c).2; omega
  have hEd : (encB d).size ≤ 1048576 := by have := (encB_le d).2; omega
  have hb1 := bytes4_yes a b c d w hab
  have hca := fun w1 h1 h2 => path_any a b w1 (by omega) (by omega) h1 h2
  have hcb := fun w1 h1 h2 => path_any c d w1 (by omega) (by omega) h1 h2
  have hsa : (pathB a b).size ≤ 8388608 := by rw [pathB_size]; omega
  have hna := fun w1 => count_any (pathB a b) w1 hsa
  have hfa := fun w1 => frame_any (pathB a b) _ _ (pathB_list a b) (fun _ => rfl) w1 hsa
  have hg5 : ∀ w1, Calls Tryd.prog 15 #[.string (pathB a b), .int .i64 5] w1 fun e w' => e = .returned (.string (encB a)) ∧ w' = w1 := fun w1 => segment_any (pathB a b) _ _ _ 5 5 rfl (by decide) w1 hsa (by rw [pathB_list]; exact seg5 _ _)
  have hg7 : ∀ w1, Calls Tryd.prog 15 #[.string (pathB a b), .int .i64 7] w1 fun e w' => e = .returned (.string (encB b)) ∧ w' = w1 := fun w1 => segment_any (pathB a b) _ _ _ 7 7 rfl (by decide) w1 hsa (by rw [pathB_list]; exact seg7 _ _)
  simp only [cnt_path] at hna
  have hne : ¬ (a = c ∧ b = d) → ((pathB a b).toList == (pathB c d).toList) = false := fun h => beq_false_of fun e => h (pathB_inj e)
  have hsame : a = c ∧ b = d → pathB a b = pathB c d := fun h => by rw [h.1, h.2]
  obtain ⟨P, HP⟩ : ∃ P, Hid (P = pathB a b) := ⟨_, rfl⟩
  obtain ⟨Q, HQ⟩ : ∃ Q, Hid (Q = pathB c d) := ⟨_, rfl⟩
  simp only [← HP.out, ← HQ.out] at hca hcb hna hfa hg5 hg7 hne hsame
  clear HP HQ
  have HNE := show Hid (¬ (a = c ∧ b = d) → (P.toList == Q.toList) = false) from hne
  have HS := show Hid (a = c ∧ b = d → P = Q) from hsame
  clear hne hsame
  go_enter Tryd.func6, Tryd.ntmps6
  go_wp2_with fail
  refine hb1.mono ?_
  rintro e w' ⟨rfl, rfl⟩
  clear hb1
  go_wp2_with fail
  refine (hca _ ht hp).mono ?_
  rintro e w1 ⟨rfl, hbl1⟩
  have HB1 : Hid (Below w'.heap.size w' w1) := hbl1
  have ht1 := ht.below hbl1 hp
  have hq1 : 0 < w1.heap.size := Nat.lt_of_lt_of_le hp hbl1.size
  clear hbl1
  go_wp2_with fail
  refine (hcb w1 ht1 hq1).mono ?_
  rintro e w2 ⟨rfl, hbl2⟩
  have HB2 : Hid (Below w1.heap.size w1 w2) := hbl2
  clear hbl2
  go_wp2_with fail
  refine (hna w2).mono ?_
  rintro e w3 ⟨rfl, rfl⟩
  go_wp2_with fail
  refine (hfa w3).mono ?_
  rintro e w4 ⟨rfl, rfl⟩
  go_wp2_with fail
  refine (hg5 w4).mono ?_
  rintro e w5 ⟨rfl, rfl⟩
  go_wp2_with fail
  refine (canon_any a w5 (by omega)).mono ?_
  rintro e w6 ⟨rfl, rfl⟩
  go_wp2_with fail
  refine (hg7 w6).mono ?_
  rintro e w7 ⟨rfl, rfl⟩
  go_wp2_with fail
  refine (canon_any b w7 (by omega)).mono ?_
  rintro e w8 ⟨rfl, rfl⟩
  by_cases hac : a = c
  · by_cases hbd : b = d
    · have hPQ := HS.out ⟨hac, hbd⟩
      subst hPQ
      subst hac
      subst hbd
      go_wp2_with fail
      go_ret
      exact ⟨rfl, Below.step HB1.out HB2.out⟩
    · have n1 := HNE.out (fun h => hbd h.2)
      have n2 := beq_false_of hbd
      subst hac
      go_wp2_with fail
      go_ret
      exact ⟨rfl, Below.step HB1.out HB2.out⟩
  · have n1 := HNE.out (fun h => hac h.1)
    have n2 := beq_false_of hac
    go_wp2_with fail
    go_ret
    exact ⟨rfl, Below.step HB1.out HB2.out⟩
set_option maxHeartbeats 1000000 in
theorem pairs_else (a b c d : ByteArray) (w : World) (ha : a.size ≤ maxLen) (hb : b.size ≤ maxLen) (hc : c.size ≤ maxLen) (hd : d.size ≤ maxLen) (h : ¬ (a.size + b.size + c.size + d.size ≤ 1048576 ∧ a.size ≤ 262144 ∧ b.size ≤ 262144 ∧ c.size ≤ 262144 ∧ d.size ≤ 262144)) :
    Calls Tryd.prog 6 #[.string a, .string b, .string c, .string d] w fun e w' => e = .returned (.bool true) ∧ w' = w := by
  by_cases hab : a.size + b.size + c.size + d.size ≤ 1048576
  · have hb1 := bytes4_yes a b c d w hab
    unfold maxLen at ha hb hc hd
    by_cases h1 : a.size ≤ 262144
    · by_cases h2 : b.size ≤ 262144
      · by_cases h3 : c.size ≤ 262144
        · have h4 : ¬ d.size ≤ 262144 := by omega
          clear h
          go_enter Tryd.func6, Tryd.ntmps6
          go_wp2_with (go_at_call 18; refine hb1.mono ?_; rintro e w' ⟨rfl, rfl⟩)
          go_ret
          exact ⟨rfl, rfl⟩
        · clear h
          go_enter Tryd.func6, Tryd.ntmps6
          go_wp2_with (go_at_call 18; refine hb1.mono ?_; rintro e w' ⟨rfl, rfl⟩)
          go_ret
          exact ⟨rfl, rfl⟩
      · clear h
        go_enter Tryd.func6, Tryd.ntmps6
        go_wp2_with (go_at_call 18; refine hb1.mono ?_; rintro e w' ⟨rfl, rfl⟩)
        go_ret
        exact ⟨rfl, rfl⟩
    · clear h
      go_enter Tryd.func6, Tryd.ntmps6
      go_wp2_with (go_at_call 18; refine hb1.mono ?_; rintro e w' ⟨rfl, rfl⟩)
      go_ret
      exact ⟨rfl, rfl⟩
  · have hb1 := bytes4_no a b c d w hab ha hb hc hd
    clear h
    go_enter Tryd.func6, Tryd.ntmps6
    go_wp2_with (go_at_call 18; refine hb1.mono ?_; rintro e w' ⟨rfl, rfl⟩)
    go_ret
    exact ⟨rfl, rfl⟩
theorem pairs_walk (a b c d : ByteArray) (w : World) (ha : a.size ≤ maxLen) (hb : b.size ≤ maxLen) (hc : c.size ≤ maxLen) (hd : d.size ≤ maxLen) (ht : Tab w) (hp : 0 < w.heap.size) :
    Calls Tryd.prog 6 #[.string a, .string b, .string c, .string d] w fun e w' => e = .returned (.bool true) ∧ Below w.heap.size w w' := by
  by_cases h : a.size + b.size + c.size + d.size ≤ 1048576 ∧ a.size ≤ 262144 ∧ b.size ≤ 262144 ∧ c.size ≤ 262144 ∧ d.size ≤ 262144
  · exact pairs_main a b c d w h.1 h.2.1 h.2.2.1 h.2.2.2.1 h.2.2.2.2 ht hp
  · refine (pairs_else a b c d w ha hb hc hd h).mono ?_
    rintro e w' ⟨rfl, rfl⟩
    exact ⟨rfl, Below.refl _ _⟩
end Go.Proofs.Qxb6612895aDoor
