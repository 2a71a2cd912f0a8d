/-
  net/url.escape IN A PATH's SEGMENT (mode 2) WRITES 'encB s'; PathEscape; lease.CollectionPath and lease.Path.
-/
import Derived.Test.Qxb6612895aDoorBase
import Derived.Deep.Cut
import Derived.Deep.Light
namespace Go.Proofs.Qxb6612895aDoor
open Go.RowKit
theorem hex_at : ∀ (n : Nat) (h : n < (ByteArray.mk #[48, 49, 50, 51, 52, 53, 54, 55, 56, 57, 65, 66, 67, 68, 69, 70]).size), ((((ByteArray.mk #[48, 49, 50, 51, 52, 53, 54, 55, 56, 57, 65, 66, 67, 68, 69, 70])[n]'h).toNat : Int)) = ((hexd n).toNat : Int)
  | 0, _ | 1, _ | 2, _ | 3, _ | 4, _ | 5, _ | 6, _ | 7, _ | 8, _ | 9, _ | 10, _ | 11, _ | 12, _ | 13, _ | 14, _ | 15, _ => rfl
  | n + 16, h => absurd h (by show ¬ (n + 16 < 16); omega)
theorem getD_of {e : List UInt8} {m : Nat} {b : UInt8} (h : e[m]? = some b) : ((e.getD m 0).toNat : Int) = (b.toNat : Int) := by rw [List.getD, h]; rfl
theorem step_not {w : World} {tb : Nat} {e : List UInt8} {m : Nat} {c : UInt8} (hout : Out w tb e m) (hm : m + 3 ≤ e.length) (hkc : kept c = false) (hE : ∀ j, j < (enc1 c).length → e[m + j]? = (enc1 c)[j]?)
    (v1 v2 : Int) (h1 : v1 = ((hexd (c.toNat / 16)).toNat : Int)) (h2 : v2 = ((hexd (c.toNat % 16)).toNat : Int)) :
    Out (((w.setCell ⟨tb, m, none⟩ (.int .u8 37)).setCell ⟨tb, m + 1, none⟩ (.int .u8 v1)).setCell ⟨tb, m + 2, none⟩ (.int .u8 v2)) tb e (m + 3) := by
  rw [enc1_not hkc] at hE
  have e0 : e[m]? = some 37 := hE 0 (by simp)
  have e1 := hE 1 (by simp)
  have e2 := hE 2 (by simp)
  refine ((hout.set (by omega) 37 ?_).set (by omega) v1 ?_).set (by omega) v2 ?_
  · rw [getD_of (b := 37) e0]; rfl
  · rw [getD_of e1]; exact h1
  · rw [getD_of e2]; exact h2
theorem step_kept {w : World} {tb : Nat} {e : List UInt8} {m : Nat} {c : UInt8} (hout : Out w tb e m) (hm : m + 1 ≤ e.length) (hkc : kept c = true) (hE : ∀ j, j < (enc1 c).length → e[m + j]? = (enc1 c)[j]?) :
    Out (w.setCell ⟨tb, m, none⟩ (.int .u8 (c.toNat : Int))) tb e (m + 1) := by
  rw [enc1_kept hkc] at hE
  have e0 : e[m]? = some c := hE 0 (by simp)
  exact hout.set (by omega) _ (getD_of (b := c) e0).symm
theorem conv_out (w : World) (tb cap N : Nat) (s : ByteArray) (hN : N = (enc s.data.toList).length) (h : Out w tb (enc s.data.toList) N) :
    (convert 39 9 (.slice (some ⟨tb, 0, none⟩) N cap)).run Tryd.prog w = .ok (.string (encB s)) w := by
  subst hN
  refine run_convert_bytes_back (P := Tryd.prog) w 39 9 5 ⟨tb, 0, none⟩ cap (enc s.data.toList) Tryd.underlying39 Tryd.underlying5 Tryd.underlying9 fun j hj => ?_
  have := h.1 j hj
  rw [List.getD, List.getElem?_eq_getElem hj] at this
  have ha : (⟨tb, 0, none⟩ : Addr).add j = ⟨tb, j, none⟩ := by unfold Addr.add; split <;> simp_all
  rw [ha]
  exact this
set_option maxRecDepth 10000 in
set_option maxHeartbeats 400000 in
theorem escape_any (s : ByteArray) (w : World) (hs : s.size ≤ 1048576) (ht : Tab w) (hp : 0 < w.heap.size) :
    Calls Tryd.prog 26 #[.string s, .int .u8 2] w fun e w' => e = .returned (.string (encB s)) ∧ Below w.heap.size w w' := by
  have hb := fun w => run_bytes_of_string (P := Tryd.prog) w 9 39 5 s Tryd.underlying9 Tryd.underlying39 Tryd.underlying5
  go_enter Tryd.func26, Tryd.ntmps26
  go_wp2
  go_loopw [5, 6, 19] (fun a h i wr => ∃ k x : Nat, k ≤ s.size ∧ x ≤ k ∧ a = .int .i64 0 ∧ i = .int .i64 k ∧ h = .int .i64 x ∧ at_ s.data.toList k = k + 2 * x ∧ Bytes wr w.heap.size s ∧ Below w.heap.size w wr ∧ wr.heap.size = w.heap.size + 1)
    (fun _ _ i _ => s.size - (intOf i).toNat)
  case atStart =>
    exact ⟨0, 0, Nat.zero_le _, Nat.le_refl _, rfl, rfl, rfl, at_zero _, fun j hj => byte_cells w s _ _ j hj, ((Below.refl _ _).alloc (Nat.le_refl _) _).drew, by simp⟩
  case round =>
    obtain ⟨k, x, hk, hxk, rfl, rfl, rfl, hat, hby, hbl, hsz⟩ := hrel
    have htab := ht.below hbl hp
    have HAT : Hid (at_ s.data.toList k = k + 2 * x) := hat
    clear hat
    by_cases hlt : k < s.size
    · have hc := hby k hlt
      obtain ⟨c, HC⟩ : ∃ c, Hid (c = s.data.toList.getD k 0) := ⟨_, rfl⟩
      rw [← HC.out] at hc
      have hsh := should_any c wr htab
      cases hkc : kept c
      · rw [hkc] at hsh
        go_wp2_with (go_at_call 27; refine hsh.mono ?_; rintro e w' ⟨rfl, rfl⟩)
        all_goals
          go_roundw
          case rel => exact ⟨k + 1, x + 1, by omega, by omega, rfl, by go_num, by go_num, by rw [at_not _ k (by rw [llen]; exact hlt) (by rw [← HC.out]; exact hkc), HAT.out]; omega, hby, hbl, hsz⟩
          case measure => simp [intOf]; omega
      · rw [hkc] at hsh
        go_wp2_with (go_at_call 27; refine hsh.mono ?_; rintro e w' ⟨rfl, rfl⟩)
        go_roundw
        case rel => exact ⟨k + 1, x, by omega, by omega, rfl, by go_num, rfl, by rw [at_kept _ k (by rw [llen]; exact hlt) (by rw [← HC.out]; exact hkc), HAT.out]; omega, hby, hbl, hsz⟩
        case measure => simp [intOf]; omega
    · obtain rfl : k = s.size := by omega
      by_cases hx : x = 0
      · subst hx
        go_wp2
        go_ret
        exact ⟨by rw [encB_same s HAT.out]; rfl, hbl⟩
      · have hx0 : ((x : Int) == 0) = false := by simp; omega
        have hx1 : ¬ ((x : Int) = 0) := by omega
        obtain ⟨N, HN⟩ : ∃ N : Nat, Hid (((s.size : Int) + 2 * (x : Int)) = (N : Int)) := ⟨s.size + 2 * x, by show _ = _; omega⟩
        by_cases h64 : (s.size : Int) + 2 * (x : Int) ≤ 64
        · have hsl := fun w b => sl41 w b _ N HN.out (by have := HN.out; omega)
          go_wp2
          have hal : at_ s.data.toList s.size = (enc s.data.toList).length := at_full _ _ (by rw [llen]; exact Nat.le_refl _)
          have hNe : N = (enc s.data.toList).length := by have := HN.out; have := HAT.out; omega
          have HNE : Hid (N = (enc s.data.toList).length) := hNe
          clear hNe hal
          go_loopw [13, 78] (fun j i wr' => ∃ k m : Nat, k ≤ s.size ∧ i = .int .i64 k ∧ j = .int .i64 m ∧ at_ s.data.toList k = m ∧ Bytes wr' (w.heap.size + 1 + 1) s ∧ Out wr' (w.heap.size + 1) (enc s.data.toList) m ∧ Below w.heap.size w wr')
            (fun _ i _ => s.size - (intOf i).toNat)
          case atStart => exact ⟨0, 0, Nat.zero_le _, rfl, rfl, at_zero _, start_bytes _ _ _ _ _ (by simp [hsz]), start_out _ _ _ _ _ _ (by simp [hsz]) (by have := HNE.out; have := HN.out; simp; omega), ((hbl.alloc (by omega) _).alloc (by simp; omega) _).drew⟩
          case round =>
            clear hsl hby hbl htab HAT hsz h64 hlt hk
            obtain ⟨k, m, hk, rfl, rfl, hat, hby, hout, hbl⟩ := hrel
            have htab := ht.below hbl hp
            by_cases hlt : k < s.size
            · have hc := hby k hlt
              obtain ⟨c, HC⟩ : ∃ c, Hid (c = s.data.toList.getD k 0) := ⟨_, rfl⟩
              rw [← HC.out] at hc
              have hsh := should_any c wr htab
              have hll : k < s.data.toList.length := by rw [llen]; exact hlt
              have HAT : Hid (at_ s.data.toList k = m) := hat
              have hm0 := at_lt s.data.toList k hll
              rw [HAT.out, ← HNE.out] at hm0
              have hge : s.data.toList[k] = c := by rw [HC.out, List.getD, List.getElem?_eq_getElem hll]; rfl
              rw [hge] at hm0
              have HE := fun j hj => enc_at s.data.toList k hll j hj
              rw [hge, HAT.out] at HE
              have HE' : Hid (∀ j, j < (enc1 c).length → (enc s.data.toList)[m + j]? = (enc1 c)[j]?) := HE
              clear hat hge HE
              cases hkc : kept c
              · have h3 := at_not s.data.toList k hll (by rw [← HC.out]; exact hkc)
                rw [HAT.out] at h3
                rw [enc1_not hkc] at hm0
                simp only [List.length_cons, List.length_nil] at hm0
                have H3 : Hid (at_ s.data.toList (k + 1) = m + 3) := h3
                rw [hkc] at hsh
                have hN := HNE.out
                obtain ⟨v0, hv0⟩ := Option.isSome_iff_exists.1 (hout.2 m (by omega)).1
                obtain ⟨v1, hv1⟩ := Option.isSome_iff_exists.1 (hout.2 (m + 1) (by omega)).1
                obtain ⟨v2, hv2⟩ := Option.isSome_iff_exists.1 (hout.2 (m + 2) (by omega)).1
                have hf0 := (hout.2 m (by omega)).2
                have hf1 := (hout.2 (m + 1) (by omega)).2
                have hf2 := (hout.2 (m + 2) (by omega)).2
                have hNb : N ≤ 3145728 := by have := HN.out; omega
                have hcb : c.toNat ≤ 255 := by have := c.toNat_lt; omega
                clear hN h3 hx hx0 hx1 hll
                cases h32 : ((c.toNat : Int) == 32)
                all_goals
                  go_wp2_with (go_at_call 27; refine hsh.mono ?_; rintro e w' ⟨rfl, rfl⟩)
                  go_roundw
                  case rel =>
                    refine ⟨k + 1, m + 3, by omega, by go_num, by go_num, H3.out, ?_, step_not hout (by rw [← HNE.out]; exact hm0) hkc HE'.out _ _ (hex_at _ _) (hex_at _ _), ?_⟩
                    · exact ((hby.set (by simp) _).set (by simp) _).set (by simp) _
                    · exact ((hbl.setCell (by simp <;> omega) _).setCell (by simp <;> omega) _).setCell (by simp <;> omega) _
                  case measure => simp [intOf]; omega
              · have h3 := at_kept s.data.toList k hll (by rw [← HC.out]; exact hkc)
                rw [HAT.out] at h3
                rw [enc1_kept hkc] at hm0
                simp only [List.length_cons, List.length_nil] at hm0
                have H3 : Hid (at_ s.data.toList (k + 1) = m + 1) := h3
                rw [hkc] at hsh
                have hN := HNE.out
                obtain ⟨v0, hv0⟩ := Option.isSome_iff_exists.1 (hout.2 m (by omega)).1
                have hf0 := (hout.2 m (by omega)).2
                have hNb : N ≤ 3145728 := by have := HN.out; omega
                have hcb : c.toNat ≤ 255 := by have := c.toNat_lt; omega
                clear hN h3 hx hx0 hx1 hll
                cases h32 : ((c.toNat : Int) == 32)
                all_goals
                  go_wp2_with (go_at_call 27; refine hsh.mono ?_; rintro e w' ⟨rfl, rfl⟩)
                  go_roundw
                  case rel => exact ⟨k + 1, m + 1, by omega, by go_num, by go_num, H3.out, hby.set (by simp) _, step_kept hout (by rw [← HNE.out]; exact hm0) hkc HE'.out, hbl.setCell (by simp <;> omega) _⟩
                  case measure => simp [intOf]; omega
            · obtain rfl : k = s.size := by omega
              have hmN : m = N := by rw [← hat, HNE.out]; exact at_full _ _ (by rw [llen]; exact Nat.le_refl _)
              subst hmN
              have hcv := conv_out wr _ 64 m s HNE.out hout
              clear hat
              go_wp2
              go_ret
              exact ⟨rfl, hbl⟩
        · have hmk := fun w => mk39 w _ N HN.out (by have := HN.out; omega)
          go_wp2
          have hal : at_ s.data.toList s.size = (enc s.data.toList).length := at_full _ _ (by rw [llen]; exact Nat.le_refl _)
          have hNe : N = (enc s.data.toList).length := by have := HN.out; have := HAT.out; omega
          have HNE : Hid (N = (enc s.data.toList).length) := hNe
          clear hNe hal
          go_loopw [13, 78] (fun j i wr' => ∃ k m : Nat, k ≤ s.size ∧ i = .int .i64 k ∧ j = .int .i64 m ∧ at_ s.data.toList k = m ∧ Bytes wr' (w.heap.size + 1 + 1 + 1) s ∧ Out wr' (w.heap.size + 1 + 1) (enc s.data.toList) m ∧ Below w.heap.size w wr')
            (fun _ i _ => s.size - (intOf i).toNat)
          case atStart => exact ⟨0, 0, Nat.zero_le _, rfl, rfl, at_zero _, start_bytes _ _ _ _ _ (by simp [hsz]), start_out _ _ _ _ _ _ (by simp [hsz]) (by rw [size_madeCells]; exact Nat.le_of_eq HNE.out.symm), (((hbl.alloc (by omega) _).alloc (by simp; omega) _).alloc (by simp; omega) _).drew⟩
          case round =>
            clear hmk hby hbl htab HAT hsz h64 hlt hk
            obtain ⟨k, m, hk, rfl, rfl, hat, hby, hout, hbl⟩ := hrel
            have htab := ht.below hbl hp
            by_cases hlt : k < s.size
            · have hc := hby k hlt
              obtain ⟨c, HC⟩ : ∃ c, Hid (c = s.data.toList.getD k 0) := ⟨_, rfl⟩
              rw [← HC.out] at hc
              have hsh := should_any c wr htab
              have hll : k < s.data.toList.length := by rw [llen]; exact hlt
              have HAT : Hid (at_ s.data.toList k = m) := hat
              have hm0 := at_lt s.data.toList k hll
              rw [HAT.out, ← HNE.out] at hm0
              have hge : s.data.toList[k] = c := by rw [HC.out, List.getD, List.getElem?_eq_getElem hll]; rfl
              rw [hge] at hm0
              have HE := fun j hj => enc_at s.data.toList k hll j hj
              rw [hge, HAT.out] at HE
              have HE' : Hid (∀ j, j < (enc1 c).length → (enc s.data.toList)[m + j]? = (enc1 c)[j]?) := HE
              clear hat hge HE
              cases hkc : kept c
              · have h3 := at_not s.data.toList k hll (by rw [← HC.out]; exact hkc)
                rw [HAT.out] at h3
                rw [enc1_not hkc] at hm0
                simp only [List.length_cons, List.length_nil] at hm0
                have H3 : Hid (at_ s.data.toList (k + 1) = m + 3) := h3
                rw [hkc] at hsh
                have hN := HNE.out
                obtain ⟨v0, hv0⟩ := Option.isSome_iff_exists.1 (hout.2 m (by omega)).1
                obtain ⟨v1, hv1⟩ := Option.isSome_iff_exists.1 (hout.2 (m + 1) (by omega)).1
                obtain ⟨v2, hv2⟩ := Option.isSome_iff_exists.1 (hout.2 (m + 2) (by omega)).1
                have hf0 := (hout.2 m (by omega)).2
                have hf1 := (hout.2 (m + 1) (by omega)).2
                have hf2 := (hout.2 (m + 2) (by omega)).2
                have hNb : N ≤ 3145728 := by have := HN.out; omega
                have hcb : c.toNat ≤ 255 := by have := c.toNat_lt; omega
                clear hN h3 hx hx0 hx1 hll
                cases h32 : ((c.toNat : Int) == 32)
                all_goals
                  go_wp2_with (go_at_call 27; refine hsh.mono ?_; rintro e w' ⟨rfl, rfl⟩)
                  go_roundw
                  case rel =>
                    refine ⟨k + 1, m + 3, by omega, by go_num, by go_num, H3.out, ?_, step_not hout (by rw [← HNE.out]; exact hm0) hkc HE'.out _ _ (hex_at _ _) (hex_at _ _), ?_⟩
                    · exact ((hby.set (by simp) _).set (by simp) _).set (by simp) _
                    · exact ((hbl.setCell (by simp <;> omega) _).setCell (by simp <;> omega) _).setCell (by simp <;> omega) _
                  case measure => simp [intOf]; omega
              · have h3 := at_kept s.data.toList k hll (by rw [← HC.out]; exact hkc)
                rw [HAT.out] at h3
                rw [enc1_kept hkc] at hm0
                simp only [List.length_cons, List.length_nil] at hm0
                have H3 : Hid (at_ s.data.toList (k + 1) = m + 1) := h3
                rw [hkc] at hsh
                have hN := HNE.out
                obtain ⟨v0, hv0⟩ := Option.isSome_iff_exists.1 (hout.2 m (by omega)).1
                have hf0 := (hout.2 m (by omega)).2
                have hNb : N ≤ 3145728 := by have := HN.out; omega
                have hcb : c.toNat ≤ 255 := by have := c.toNat_lt; omega
                clear hN h3 hx hx0 hx1 hll
                cases h32 : ((c.toNat : Int) == 32)
                all_goals
                  go_wp2_with (go_at_call 27; refine hsh.mono ?_; rintro e w' ⟨rfl, rfl⟩)
                  go_roundw
                  case rel => exact ⟨k + 1, m + 1, by omega, by go_num, by go_num, H3.out, hby.set (by simp) _, step_kept hout (by rw [← HNE.out]; exact hm0) hkc HE'.out, hbl.setCell (by simp <;> omega) _⟩
                  case measure => simp [intOf]; omega
            · obtain rfl : k = s.size := by omega
              have hmN : m = N := by rw [← hat, HNE.out]; exact at_full _ _ (by rw [llen]; exact Nat.le_refl _)
              subst hmN
              have hcv := conv_out wr _ m m s HNE.out hout
              clear hat
              go_wp2
              go_ret
              exact ⟨rfl, hbl⟩
def preB : ByteArray := ⟨#[47, 97, 112, 105, 115, 47, 99, 111, 111, 114, 100, 105, 110, 97, 116, 105, 111, 110, 46, 107, 56, 115, 46, 105, 111, 47, 118, 49, 47, 110, 97, 109, 101, 115, 112, 97, 99, 101, 115, 47]⟩
def sufB : ByteArray := ⟨#[47, 108, 101, 97, 115, 101, 115]⟩
def slashB : ByteArray := ⟨#[47]⟩
/-- lease.CollectionPath(ns), lease.Path(ns, name). -/
def colB (s : ByteArray) : ByteArray := preB ++ encB s ++ sufB
def pathB (s t : ByteArray) : ByteArray := colB s ++ slashB ++ encB t
theorem preB_size : preB.size = 40 := rfl
theorem sufB_size : sufB.size = 7 := rfl
theorem slashB_size : slashB.size = 1 := rfl
theorem colB_size (s : ByteArray) : (colB s).size = 47 + (encB s).size := by
  unfold colB; rw [ByteArray.size_append, ByteArray.size_append, preB_size, sufB_size]; omega
theorem pathB_size (s t : ByteArray) : (pathB s t).size = 48 + (encB s).size + (encB t).size := by
  unfold pathB; rw [ByteArray.size_append, ByteArray.size_append, slashB_size, colB_size]; omega
set_option maxHeartbeats 400000 in
theorem pathEscape_any (s : ByteArray) (w : World) (hs : s.size ≤ 1048576) (ht : Tab w) (hp : 0 < w.heap.size) :
    Calls Tryd.prog 22 #[.string s] w fun e w' => e = .returned (.string (encB s)) ∧ Below w.heap.size w w' := by
  have hc := escape_any s w hs ht hp
  go_enter Tryd.func22, Tryd.ntmps22
  go_wp2_with (go_at_call 26; refine hc.mono ?_; rintro e w' ⟨rfl, hbl⟩)
  go_ret
  exact ⟨rfl, hbl⟩
set_option maxHeartbeats 400000 in
theorem col_any (s : ByteArray) (w : World) (hs : s.size ≤ 1048576) (ht : Tab w) (hp : 0 < w.heap.size) :
    Calls Tryd.prog 10 #[.string s] w fun e w' => e = .returned (.string (colB s)) ∧ Below w.heap.size w w' := by
  have hc := pathEscape_any s w hs ht hp
  have hle := (encB_le s).2
  have hsz : (encB s).size ≤ 3145728 := by omega
  clear hle
  go_enter Tryd.func10, Tryd.ntmps10
  go_wp2_with (go_at_call 22; refine hc.mono ?_; rintro e w' ⟨rfl, hbl⟩)
  go_ret
  exact ⟨rfl, hbl⟩
set_option maxHeartbeats 400000 in
theorem path_any (s t : ByteArray) (w : World) (hs : s.size ≤ 1048576) (hs' : t.size ≤ 1048576) (ht : Tab w) (hp : 0 < w.heap.size) :
    Calls Tryd.prog 17 #[.string s, .string t] w fun e w' => e = .returned (.string (pathB s t)) ∧ Below w.heap.size w w' := by
  have hc := col_any s w hs ht hp
  have hsz : (encB s).size ≤ 3145728 := by have := (encB_le s).2; omega
  have hsz' : (encB t).size ≤ 3145728 := by have := (encB_le t).2; omega
  have hcz : (colB s).size ≤ 3145775 := by rw [colB_size]; omega
  go_enter Tryd.func17, Tryd.ntmps17
  go_wp2_with fail
  refine hc.mono ?_
  rintro e w' ⟨rfl, hbl⟩
  have hc2 := pathEscape_any t w' hs' (ht.below hbl hp) (Nat.lt_of_lt_of_le hp hbl.size)
  have HB : Hid (Below w.heap.size w w') := hbl
  have hw : w.heap.size ≤ w'.heap.size := hbl.size
  clear hbl hc
  go_wp2_with (go_at_call 22; refine hc2.mono ?_; rintro e w2 ⟨rfl, hbl2⟩)
  go_ret
  exact ⟨rfl, HB.out.trans (hbl2.mono hw)⟩
end Go.Proofs.Qxb6612895aDoor
