/-
  zzCountSlash, zzSegment, zzFrameOK at the paths that lease writes.
-/
import Derived.Test.Qxb6612895aDoorJoins
namespace Go.Proofs.Qxb6612895aDoor
open Go.RowKit
def cnt (l : List UInt8) : Nat := l.count 47
theorem cnt_snoc (l : List UInt8) (k : Nat) (h : k < l.length) : cnt (l.take (k + 1)) = cnt (l.take k) + if l[k] = 47 then 1 else 0 := by
  rw [take_snoc l k h]
  unfold cnt
  rw [List.count_append]
  simp [List.count_cons]
theorem cnt_le (l : List UInt8) (k : Nat) : cnt (l.take k) ≤ k := by
  unfold cnt
  exact Nat.le_trans List.count_le_length (List.length_take_le _ _)
theorem getBl (s : ByteArray) (j : Nat) (h : j < s.size) (h' : j < s.data.toList.length) : s[j]'h = s.data.toList[j] := getB s j h _ (List.getElem?_eq_getElem h')
set_option maxHeartbeats 400000 in
theorem count_any (p : ByteArray) (w : World) (hs : p.size ≤ 8388608) :
    Calls Tryd.prog 13 #[.string p] w fun e w' => e = .returned (.int .i64 (cnt p.data.toList : Nat)) ∧ w' = w := by
  go_enter Tryd.func13, Tryd.ntmps13
  go_wp2
  go_loop [3, 4] (fun n i => ∃ k c : Nat, k ≤ p.size ∧ c ≤ k ∧ i = .int .i64 k ∧ n = .int .i64 c ∧ c = cnt (p.data.toList.take k)) (fun _ i => p.size - (intOf i).toNat)
  case atStart => exact ⟨0, 0, Nat.zero_le _, Nat.le_refl _, rfl, rfl, rfl⟩
  case round =>
    obtain ⟨k, c, hk, hck, rfl, rfl, hc⟩ := hrel
    have HC : Hid (c = cnt (p.data.toList.take k)) := hc
    clear hc
    by_cases hlt : k < p.size
    · have hll : k < p.data.toList.length := by rw [llen]; exact hlt
      have hsn := cnt_snoc p.data.toList k hll
      obtain ⟨b, hb⟩ : ∃ b, b = p.data.toList[k] := ⟨_, rfl⟩
      have hP : ∀ h, p[k]'h = b := fun h => by rw [hb]; exact getBl p k h hll
      rw [← hb] at hsn
      clear hb hll
      rw [← HC.out] at hsn
      by_cases h47 : b = 47
      · rw [if_pos h47] at hsn
        have H : Hid (cnt (p.data.toList.take (k + 1)) = c + 1) := hsn
        have hP' : ∀ h, (p[k]'h).toNat = 47 := fun h => by rw [hP h, h47]; rfl
        clear hsn hP h47
        go_wp2
        go_round
        case rel => exact ⟨k + 1, c + 1, by omega, by omega, by go_num, by go_num, H.out.symm⟩
        case measure => simp [intOf]; omega
      · rw [if_neg h47] at hsn
        have H : Hid (cnt (p.data.toList.take (k + 1)) = c) := hsn
        have hn : ¬ ((b.toNat : Int) = 47) := fun h => h47 (UInt8.toNat_inj.1 (by show b.toNat = 47; omega))
        clear hsn h47
        go_wp2
        go_round
        case rel => exact ⟨k + 1, c, by omega, by omega, by go_num, rfl, H.out.symm⟩
        case measure => simp [intOf]; omega
    · go_wp2
      go_ret
      exact ⟨ret_int (by rw [HC.out, List.take_of_length_le (by rw [llen]; omega)]), rfl⟩
theorem ext_list (p : ByteArray) (u v t : List UInt8) (hp : p.data.toList = u ++ (v ++ t)) (i j : Nat) (hi : i = u.length) (hj : j = u.length + v.length) : p.extract i j = ⟨v.toArray⟩ := by
  subst hi; subst hj
  apply ByteArray.ext
  apply Array.toList_inj.1
  rw [ByteArray.data_extract, Array.toList_extract, hp, List.extract, List.drop_left, show u.length + v.length - u.length = v.length by omega, List.take_left]
theorem cnt_take_le (u r : List UInt8) (i : Nat) (hi : i ≤ u.length) : cnt ((u ++ r).take i) ≤ cnt u := by
  rw [List.take_append_of_le_length hi]
  unfold cnt
  exact List.Sublist.count_le _ (List.take_sublist _ _)
theorem cnt_take_full (u r : List UInt8) : cnt ((u ++ r).take u.length) = cnt u := by rw [List.take_left]
/-- Where a segment lies: u ahead of it (empty, or ending in a slash; k slashes in it), v the segment (no slash), t behind it (empty, or beginning with a slash). -/
structure SegAt (L u v t : List UInt8) (k : Nat) : Prop where
  all : L = u ++ (v ++ t)
  slashes : cnt u = k
  ends : ∀ h : 0 < u.length, u[u.length - 1]'(by omega) = 47
  plain : ∀ x ∈ v, x ≠ 47
  begins : ∀ h : 0 < t.length, t[0] = 47
theorem seg_u {L u v t : List UInt8} {k : Nat} (h : SegAt L u v t k) (i : Nat) (hi : i < u.length) (hL : i < L.length) : L[i] = u[i] := by
  have := h.all; subst this
  rw [List.getElem_append_left hi]
theorem seg_v {L u v t : List UInt8} {k : Nat} (h : SegAt L u v t k) (i : Nat) (h1 : u.length ≤ i) (h2 : i < u.length + v.length) (hL : i < L.length) : L[i] ≠ 47 := by
  have := h.all; subst this
  rw [List.getElem_append_right h1, List.getElem_append_left (by omega)]
  exact h.plain _ (List.getElem_mem _)
theorem seg_t {L u v t : List UInt8} {k : Nat} (h : SegAt L u v t k) (i : Nat) (h1 : i = u.length + v.length) (hL : i < L.length) : L[i] = 47 := by
  have := h.all; subst this
  have ht : 0 < t.length := by simp only [List.length_append] at hL; omega
  rw [← h.begins ht]
  subst h1
  rw [List.getElem_append_right (by omega), List.getElem_append_right (by omega)]
  congr 1
  omega
set_option maxHeartbeats 1000000 in
theorem segment_any (p : ByteArray) (u v t : List UInt8) (K : Int) (k : Nat) (hK : K = (k : Int)) (hk8 : k ≤ 8) (w : World) (hs : p.size ≤ 8388608) (hseg : SegAt p.data.toList u v t k) :
    Calls Tryd.prog 15 #[.string p, .int .i64 K] w fun e w' => e = .returned (.string ⟨v.toArray⟩) ∧ w' = w := by
  subst hK
  have hlen : p.size = u.length + v.length + t.length := by
    rw [← llen, hseg.all]; simp only [List.length_append]; omega
  have hx := ext_list p u v t hseg.all u.length (u.length + v.length) rfl rfl
  have HL : Hid (p.size = u.length + v.length + t.length) := hlen
  have hul : u.length + v.length ≤ p.size := by omega
  have HX : Hid (p.extract u.length (u.length + v.length) = ⟨v.toArray⟩) := hx
  clear hlen hx
  go_enter Tryd.func15, Tryd.ntmps15
  go_wp2
  go_loop [5, 6, 7] (fun st n i => ∃ j a c : Nat, j ≤ p.size ∧ i = .int .i64 j ∧ st = .int .i64 a ∧ n = .int .i64 c ∧ ((j < u.length ∧ c = cnt (p.data.toList.take j) ∧ a ≤ j) ∨ (u.length ≤ j ∧ j ≤ u.length + v.length ∧ c = k ∧ a = u.length))) (fun _ _ i => p.size - (intOf i).toNat)
  case atStart =>
    refine ⟨0, 0, 0, Nat.zero_le _, rfl, rfl, rfl, ?_⟩
    by_cases h : 0 < u.length
    · exact Or.inl ⟨h, rfl, Nat.le_refl _⟩
    · have hu : u = [] := List.eq_nil_of_length_eq_zero (by omega)
      refine Or.inr ⟨by omega, by omega, ?_, by omega⟩
      rw [← hseg.slashes, hu]; rfl
  case round =>
    obtain ⟨j, a, c, hj, rfl, rfl, rfl, hor⟩ := hrel
    rcases hor with ⟨hju, hc, haj⟩ | ⟨hju, hjv, rfl, rfl⟩
    · have HC : Hid (c = cnt (p.data.toList.take j)) := hc
      have hlt : j < p.size := by omega
      have hll : j < p.data.toList.length := by rw [llen]; exact hlt
      have hsn := cnt_snoc p.data.toList j hll
      rw [← HC.out] at hsn
      have hle : cnt (p.data.toList.take (j + 1)) ≤ k := by
        rw [hseg.all, ← hseg.slashes]; exact cnt_take_le _ _ _ (by omega)
      have hcj : c ≤ j := by rw [hc]; exact cnt_le _ _
      have hLu := seg_u hseg j hju hll
      obtain ⟨b, hb⟩ : ∃ b, b = p.data.toList[j] := ⟨_, rfl⟩
      have hP : ∀ h, p[j]'h = b := fun h => by rw [hb]; exact getBl p j h hll
      rw [← hb] at hsn hLu
      clear hb hc
      by_cases h47 : b = 47
      · rw [if_pos h47] at hsn
        have hck : c < k := by omega
        have hck' : ((c : Int) == (k : Int)) = false := by simp; omega
        have hP' : ∀ h, (p[j]'h).toNat = 47 := fun h => by rw [hP h, h47]; rfl
        have H : Hid (cnt (p.data.toList.take (j + 1)) = c + 1) := hsn
        have HF : Hid (j + 1 = u.length → c + 1 = k) := by
          intro e
          rw [← H.out, e, hseg.all, cnt_take_full, hseg.slashes]
        clear hsn hle hLu hP h47 hll
        go_wp2
        go_round
        case rel =>
          refine ⟨j + 1, j + 1, c + 1, by omega, by go_num, by go_num, by go_num, ?_⟩
          by_cases e : j + 1 = u.length
          · exact Or.inr ⟨by omega, by omega, HF.out e, e⟩
          · exact Or.inl ⟨by omega, H.out.symm, Nat.le_refl _⟩
        case measure => simp [intOf]; omega
      · rw [if_neg h47] at hsn
        have hne : j + 1 < u.length := by
          rcases Nat.lt_or_ge (j + 1) u.length with h | h
          · exact h
          · exfalso
            have e := hseg.ends (by omega)
            apply h47
            rw [hLu, ← e]
            congr 1
            omega
        have hn : ¬ ((b.toNat : Int) = 47) := fun h => h47 (UInt8.toNat_inj.1 (by show b.toNat = 47; omega))
        have H : Hid (cnt (p.data.toList.take (j + 1)) = c) := hsn
        clear hsn hle hLu h47 hll
        go_wp2
        go_round
        case rel => exact ⟨j + 1, a, c, by omega, by go_num, rfl, rfl, Or.inl ⟨hne, H.out.symm, by omega⟩⟩
        case measure => simp [intOf]; omega
    · by_cases hlt : j < p.size
      · have hll : j < p.data.toList.length := by rw [llen]; exact hlt
        have hv := seg_v hseg j hju
        have ht := seg_t hseg j
        obtain ⟨b, hb⟩ : ∃ b, b = p.data.toList[j] := ⟨_, rfl⟩
        have hP : ∀ h, p[j]'h = b := fun h => by rw [hb]; exact getBl p j h hll
        by_cases hjl : j < u.length + v.length
        · have h47 := hv hjl hll
          rw [← hb] at h47
          have hn : ¬ ((b.toNat : Int) = 47) := fun h => h47 (UInt8.toNat_inj.1 (by show b.toNat = 47; omega))
          clear hv ht h47 hll hb
          go_wp2
          go_round
          case rel => exact ⟨j + 1, _, _, by omega, by go_num, rfl, rfl, Or.inr ⟨by omega, by omega, rfl, rfl⟩⟩
          case measure => simp [intOf]; omega
        · have h47 := ht (by omega) hll
          rw [← hb] at h47
          have hP' : ∀ h, (p[j]'h).toNat = 47 := fun h => by rw [hP h, h47]; rfl
          have hje : j = u.length + v.length := by omega
          subst hje
          clear hv ht h47 hll hb hP
          go_wp2
          go_ret
          exact ⟨ret_str HX.out, rfl⟩
      · have hje : p.size = u.length + v.length := by omega
        have HX' : Hid (p.extract u.length p.size = ⟨v.toArray⟩) := by show _ = _; rw [hje]; exact HX.out
        clear hje
        go_wp2
        go_ret
        exact ⟨ret_str HX'.out, rfl⟩
def preL : List UInt8 := [47, 97, 112, 105, 115, 47, 99, 111, 111, 114, 100, 105, 110, 97, 116, 105, 111, 110, 46, 107, 56, 115, 46, 105, 111, 47, 118, 49, 47, 110, 97, 109, 101, 115, 112, 97, 99, 101, 115, 47]
def sufL : List UInt8 := [47, 108, 101, 97, 115, 101, 115]
theorem seg0 (R : List UInt8) : SegAt (preL ++ R) [] [] ([47, 97, 112, 105, 115, 47, 99, 111, 111, 114, 100, 105, 110, 97, 116, 105, 111, 110, 46, 107, 56, 115, 46, 105, 111, 47, 118, 49, 47, 110, 97, 109, 101, 115, 112, 97, 99, 101, 115, 47] ++ R) 0 :=
  ⟨rfl, by decide +kernel, fun h => absurd h (by decide), by decide +kernel, fun _ => rfl⟩
theorem seg1 (R : List UInt8) : SegAt (preL ++ R) [47] [97, 112, 105, 115] ([47, 99, 111, 111, 114, 100, 105, 110, 97, 116, 105, 111, 110, 46, 107, 56, 115, 46, 105, 111, 47, 118, 49, 47, 110, 97, 109, 101, 115, 112, 97, 99, 101, 115, 47] ++ R) 1 :=
  ⟨rfl, by decide +kernel, fun _ => rfl, by decide +kernel, fun _ => rfl⟩
theorem seg2 (R : List UInt8) : SegAt (preL ++ R) [47, 97, 112, 105, 115, 47] [99, 111, 111, 114, 100, 105, 110, 97, 116, 105, 111, 110, 46, 107, 56, 115, 46, 105, 111] ([47, 118, 49, 47, 110, 97, 109, 101, 115, 112, 97, 99, 101, 115, 47] ++ R) 2 :=
  ⟨rfl, by decide +kernel, fun _ => rfl, by decide +kernel, fun _ => rfl⟩
theorem seg3 (R : List UInt8) : SegAt (preL ++ R) [47, 97, 112, 105, 115, 47, 99, 111, 111, 114, 100, 105, 110, 97, 116, 105, 111, 110, 46, 107, 56, 115, 46, 105, 111, 47] [118, 49] ([47, 110, 97, 109, 101, 115, 112, 97, 99, 101, 115, 47] ++ R) 3 :=
  ⟨rfl, by decide +kernel, fun _ => rfl, by decide +kernel, fun _ => rfl⟩
theorem seg4 (R : List UInt8) : SegAt (preL ++ R) [47, 97, 112, 105, 115, 47, 99, 111, 111, 114, 100, 105, 110, 97, 116, 105, 111, 110, 46, 107, 56, 115, 46, 105, 111, 47, 118, 49, 47] [110, 97, 109, 101, 115, 112, 97, 99, 101, 115] ([47] ++ R) 4 :=
  ⟨rfl, by decide +kernel, fun _ => rfl, by decide +kernel, fun _ => rfl⟩
theorem cnt_app (a b : List UInt8) : cnt (a ++ b) = cnt a + cnt b := List.count_append
theorem cnt_enc (l : List UInt8) : cnt (enc l) = 0 := by
  unfold cnt
  exact List.count_eq_zero.2 fun h => enc_slash l 47 h rfl
theorem cnt_pre : cnt preL = 5 := by decide +kernel
theorem cnt_suf : cnt sufL = 1 := by decide +kernel
theorem seg5 (l r : List UInt8) : SegAt (preL ++ (enc l ++ (sufL ++ r))) preL (enc l) (sufL ++ r) 5 :=
  ⟨rfl, cnt_pre, fun _ => rfl, enc_slash l, fun _ => rfl⟩
theorem last47 (a : List UInt8) (h : (a ++ [47]).length - 1 < (a ++ [47]).length) : (a ++ [47])[(a ++ [47]).length - 1]'h = 47 := by
  rw [List.getElem_append_right (by simp)]
  simp
theorem seg6 (l r : List UInt8) (hr : ∀ h : 0 < r.length, r[0] = 47) : SegAt (preL ++ (enc l ++ (sufL ++ r))) ((preL ++ enc l) ++ [47]) [108, 101, 97, 115, 101, 115] r 6 := by
  refine ⟨?_, ?_, fun _ => last47 _ _, by decide +kernel, hr⟩
  · simp [sufL]
  · rw [cnt_app, cnt_app, cnt_pre, cnt_enc]; decide +kernel
theorem seg7 (l m : List UInt8) : SegAt (preL ++ (enc l ++ (sufL ++ (47 :: enc m)))) ((preL ++ (enc l ++ sufL)) ++ [47]) (enc m) [] 7 := by
  refine ⟨?_, ?_, fun _ => last47 _ _, enc_slash m, fun h => absurd h (by decide)⟩
  · simp
  · rw [cnt_app, cnt_app, cnt_app, cnt_pre, cnt_enc, cnt_suf]; decide +kernel
theorem colB_list (s : ByteArray) : (colB s).data.toList = preL ++ (enc s.data.toList ++ (sufL ++ [])) := by
  unfold colB
  rw [ByteArray.data_append, ByteArray.data_append, Array.toList_append, Array.toList_append, encB_list, List.append_assoc, List.append_nil]
  rfl
theorem pathB_list (s t : ByteArray) : (pathB s t).data.toList = preL ++ (enc s.data.toList ++ (sufL ++ (47 :: enc t.data.toList))) := by
  unfold pathB
  rw [ByteArray.data_append, ByteArray.data_append, Array.toList_append, Array.toList_append, encB_list, colB_list, List.append_nil]
  simp [slashB]
theorem cnt_col (s : ByteArray) : cnt (colB s).data.toList = 6 := by
  rw [colB_list, cnt_app, cnt_app, cnt_app, cnt_pre, cnt_enc, cnt_suf]; rfl
theorem cnt_path (s t : ByteArray) : cnt (pathB s t).data.toList = 7 := by
  rw [pathB_list, cnt_app, cnt_app, cnt_app, cnt_pre, cnt_enc, cnt_suf, show (47 :: enc t.data.toList) = [47] ++ enc t.data.toList from rfl, cnt_app, cnt_enc]; rfl
set_option maxHeartbeats 1000000 in
theorem frame_any (p : ByteArray) (l r : List UInt8) (hp : p.data.toList = preL ++ (enc l ++ (sufL ++ r))) (hr : ∀ h : 0 < r.length, r[0] = 47) (w : World) (hs : p.size ≤ 8388608) :
    Calls Tryd.prog 14 #[.string p] w fun e w' => e = .returned (.bool true) ∧ w' = w := by
  have c0 : Calls Tryd.prog 15 #[.string p, .int .i64 0] w fun e w' => e = .returned (.string ⟨#[]⟩) ∧ w' = w := segment_any p _ _ _ 0 0 rfl (by decide) w hs (by rw [hp]; exact seg0 _)
  have c1 : Calls Tryd.prog 15 #[.string p, .int .i64 1] w fun e w' => e = .returned (.string ⟨#[97, 112, 105, 115]⟩) ∧ w' = w := segment_any p _ _ _ 1 1 rfl (by decide) w hs (by rw [hp]; exact seg1 _)
  have c2 : Calls Tryd.prog 15 #[.string p, .int .i64 2] w fun e w' => e = .returned (.string ⟨#[99, 111, 111, 114, 100, 105, 110, 97, 116, 105, 111, 110, 46, 107, 56, 115, 46, 105, 111]⟩) ∧ w' = w := segment_any p _ _ _ 2 2 rfl (by decide) w hs (by rw [hp]; exact seg2 _)
  have c3 : Calls Tryd.prog 15 #[.string p, .int .i64 3] w fun e w' => e = .returned (.string ⟨#[118, 49]⟩) ∧ w' = w := segment_any p _ _ _ 3 3 rfl (by decide) w hs (by rw [hp]; exact seg3 _)
  have c4 : Calls Tryd.prog 15 #[.string p, .int .i64 4] w fun e w' => e = .returned (.string ⟨#[110, 97, 109, 101, 115, 112, 97, 99, 101, 115]⟩) ∧ w' = w := segment_any p _ _ _ 4 4 rfl (by decide) w hs (by rw [hp]; exact seg4 _)
  have c6 : Calls Tryd.prog 15 #[.string p, .int .i64 6] w fun e w' => e = .returned (.string ⟨#[108, 101, 97, 115, 101, 115]⟩) ∧ w' = w := segment_any p _ _ _ 6 6 rfl (by decide) w hs (by rw [hp]; exact seg6 l r hr)
  clear hp hr
  go_enter Tryd.func14, Tryd.ntmps14
  go_wp2_with fail
  refine c0.mono ?_
  rintro e w' ⟨rfl, rfl⟩
  go_wp2_with fail
  refine c1.mono ?_
  rintro e w' ⟨rfl, rfl⟩
  go_wp2_with fail
  refine c2.mono ?_
  rintro e w' ⟨rfl, rfl⟩
  go_wp2_with fail
  refine c3.mono ?_
  rintro e w' ⟨rfl, rfl⟩
  go_wp2_with fail
  refine c4.mono ?_
  rintro e w' ⟨rfl, rfl⟩
  go_wp2_with fail
  refine c6.mono ?_
  rintro e w' ⟨rfl, rfl⟩
  go_wp2_with fail
  go_ret
  exact ⟨rfl, rfl⟩
end Go.Proofs.Qxb6612895aDoor
