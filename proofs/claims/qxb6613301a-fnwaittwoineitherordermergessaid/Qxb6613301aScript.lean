/-
  THE LAW FnWaitScriptSortsPositions: zzCount, zzAscending, the bound on lengths, the law's walk.
-/
import Derived.Test.Qxb6613301aWait
import Derived.BigQuiet
import Derived.Deep.QuietTactic
import Derived.Deep.RegionWith
namespace Go.Proofs.Qxb6613301a
open Go.RowKit
theorem ret_int {k : IntKind} {a b : Int} (h : a = b) : Ending.returned (.int k a) = .returned (.int k b) := by rw [h]
/-- The cells of the slice at a, from its beginning on, hold L. -/
def Rd (w : World) (a : Option Addr) (L : List Int) : Prop := L = [] ∨ ∃ b o, a = some ⟨b, o, none⟩ ∧ ∀ j, j < L.length → w.cell? ⟨b, o + j, none⟩ = some (.int .i64 (L.getD j 0))
theorem Rd.of_owns {w : World} {a : Option Addr} {c : Nat} {xs : List Int} (h : Owns w a c xs) : Rd w a xs := by
  rcases h with ⟨_, _, h⟩ | ⟨g, f, rfl, h1, h2, h3, h4⟩
  · exact Or.inl h
  · exact Or.inr ⟨g, 0, rfl, fun j hj => by rw [Nat.zero_add, h3.cell (by omega), h4 j hj]⟩
theorem Rd.below {w w' : World} {a : Option Addr} {L : List Int} (h : Rd w a L) (hb : Below w.heap.size w w') : Rd w' a L := by
  rcases h with h | ⟨b, o, rfl, h1⟩
  · exact Or.inl h
  · refine Or.inr ⟨b, o, rfl, fun j hj => ?_⟩
    have := h1 j hj
    rw [hb.cell (p := ⟨b, o + j, none⟩) (World.block_lt_of_cell? _ _ this)]
    exact this
theorem Rd.drewN {w : World} {a : Option Addr} {L : List Int} (h : Rd w a L) (q : Nat) : Rd (w.drewN q) a L := h
set_option maxHeartbeats 400000 in
theorem count_any (w : World) (a : Option Addr) (n c : Nat) (L : List Int) (v : Int) (hn : L.length = n) (hl : n ≤ 1073741824) (h : Rd w a L) :
    Calls Try.prog 12 #[.slice a n c, .int .i64 v] w fun e w' => e = .returned (.int .i64 (L.count v : Nat)) ∧ w' = w := by
  have HR : Hid (Rd w a L) := h
  have HN : Hid (L.length = n) := hn
  clear h hn
  go_enter Try.func12, Try.ntmps12
  go_wp2
  go_loop [5, 6] (fun s i => ∃ k m : Nat, k ≤ n ∧ m ≤ k ∧ i = .int .i64 k ∧ s = .int .i64 m ∧ m = (L.take k).count v) (fun _ i => n - (intOf i).toNat)
  case atStart => exact ⟨0, 0, Nat.zero_le _, Nat.le_refl _, rfl, rfl, rfl⟩
  case round =>
    obtain ⟨k, m, hk, hmk, rfl, rfl, hm⟩ := hrel
    have HM : Hid (m = (L.take k).count v) := hm
    clear hm
    by_cases hlt : k < n
    · have hll : k < L.length := by rw [HN.out]; exact hlt
      obtain ⟨b, o, rfl, hcell⟩ : ∃ b o, a = some ⟨b, o, none⟩ ∧ ∀ j, j < L.length → w.cell? ⟨b, o + j, none⟩ = some (.int .i64 (L.getD j 0)) := by
        rcases HR.out with h | h
        · rw [h] at hll; simp at hll
        · exact h
      have hc := hcell k hll
      have hsn : (L.take (k + 1)).count v = m + if L.getD k 0 = v then 1 else 0 := by
        rw [List.take_succ_eq_append_getElem hll, List.count_append, ← HM.out, List.getD, List.getElem?_eq_getElem hll]
        simp [List.count_cons]
      obtain ⟨z, hz⟩ : ∃ z, z = L.getD k 0 := ⟨_, rfl⟩
      rw [← hz] at hc hsn
      clear hz hcell hll
      by_cases hzv : z = v
      · rw [if_pos hzv] at hsn
        have H : Hid ((L.take (k + 1)).count v = m + 1) := hsn
        subst hzv
        clear hsn
        go_wp2
        go_round
        case rel => exact ⟨k + 1, m + 1, by omega, by omega, by go_num, by go_num, H.out.symm⟩
        case measure => simp [intOf]; omega
      · rw [if_neg hzv] at hsn
        have H : Hid ((L.take (k + 1)).count v = m) := hsn
        have hb : (z == v) = false := by simp [hzv]
        clear hsn
        go_wp2
        go_round
        case rel => exact ⟨k + 1, m, by omega, by omega, by go_num, rfl, H.out.symm⟩
        case measure => simp [intOf]; omega
    · go_wp2
      go_ret
      exact ⟨ret_int (by rw [HM.out, List.take_of_length_le (by rw [HN.out]; omega)]), rfl⟩
theorem asc_of_adj (L : List Int) (h : ∀ j, 0 < j → j < L.length → L.getD (j - 1) 0 ≤ L.getD j 0) : L.Pairwise (· ≤ ·) := by
  have key : ∀ d i, i + d < L.length → L.getD i 0 ≤ L.getD (i + d) 0 := by
    intro d
    induction d with
    | zero => intro i _; exact Int.le_refl _
    | succ d ih =>
      intro i hi
      have h1 := ih i (by omega)
      have h2 := h (i + (d + 1)) (by omega) hi
      rw [show i + (d + 1) - 1 = i + d by omega] at h2
      omega
  rw [List.pairwise_iff_getElem]
  intro i j hi hj hij
  have := key (j - i) i (by omega)
  rw [show i + (j - i) = j by omega, List.getD, List.getD, List.getElem?_eq_getElem hi, List.getElem?_eq_getElem hj] at this
  exact this
theorem adj_of_asc (L : List Int) (h : L.Pairwise (· ≤ ·)) (j : Nat) (h0 : 0 < j) (hj : j < L.length) : L.getD (j - 1) 0 ≤ L.getD j 0 := by
  rw [List.pairwise_iff_getElem] at h
  have := h (j - 1) j (by omega) hj (by omega)
  rw [List.getD, List.getD, List.getElem?_eq_getElem (show j - 1 < L.length by omega), List.getElem?_eq_getElem hj]
  exact this
set_option maxHeartbeats 400000 in
theorem asc_any (w : World) (a : Option Addr) (n c : Nat) (L : List Int) (hn : L.length = n) (hl : n ≤ 1073741824) (h : Rd w a L) :
    Calls Try.prog 11 #[.slice a n c] w fun e w' => (∃ b : Bool, e = .returned (.bool b) ∧ (b = true ↔ L.Pairwise (· ≤ ·))) ∧ ∃ q, w' = w.drewN q := by
  have HR : Hid (Rd w a L) := h
  have HN : Hid (L.length = n) := hn
  clear h hn
  go_enter Try.func11, Try.ntmps11
  go_wp2
  go_loopw [3] (fun i wr => ∃ k q : Nat, 0 < k ∧ k ≤ n + 1 ∧ i = .int .i64 k ∧ wr = w.drewN q ∧ ∀ j, 0 < j → j < k → j < n → L.getD (j - 1) 0 ≤ L.getD j 0) (fun i _ => n - (intOf i).toNat)
  case atStart => exact ⟨1, 0, by omega, by omega, rfl, rfl, fun j h1 h2 => by omega⟩
  case round =>
    obtain ⟨k, q, hk0, hk, rfl, rfl, hadj⟩ := hrel
    have HA : Hid (∀ j, 0 < j → j < k → j < n → L.getD (j - 1) 0 ≤ L.getD j 0) := hadj
    clear hadj
    by_cases hlt : k < n
    · have hll : k < L.length := by rw [HN.out]; exact hlt
      obtain ⟨b, o, rfl, hcell⟩ : ∃ b o, a = some ⟨b, o, none⟩ ∧ ∀ j, j < L.length → w.cell? ⟨b, o + j, none⟩ = some (.int .i64 (L.getD j 0)) := by
        rcases HR.out with h | h
        · rw [h] at hll; simp at hll
        · exact h
      have hc := hcell k hll
      have hc' := hcell (k - 1) (by omega)
      obtain ⟨k', rfl⟩ : ∃ k', k = k' + 1 := ⟨k - 1, by omega⟩
      rw [show k' + 1 - 1 = k' by omega] at hc'
      obtain ⟨z, hz⟩ : ∃ z, z = L.getD (k' + 1) 0 := ⟨_, rfl⟩
      obtain ⟨y, hy⟩ : ∃ y, y = L.getD k' 0 := ⟨_, rfl⟩
      have HZ : Hid (z = L.getD (k' + 1) 0 ∧ y = L.getD k' 0) := ⟨hz, hy⟩
      rw [← hz] at hc
      rw [← hy] at hc'
      clear hz hy hcell hll
      by_cases hzy : z < y
      · go_wp2
        go_quiet (fail)
        go_wp2
        go_ret
        refine ⟨⟨false, rfl, ⟨fun h => Bool.noConfusion h, fun h => ?_⟩⟩, q + nq, by rw [World.drewN_drewN]⟩
        have := adj_of_asc L h (k' + 1) (by omega) (by rw [HN.out]; exact hlt)
        rw [show k' + 1 - 1 = k' by omega, ← HZ.out.1, ← HZ.out.2] at this
        omega
      · go_wp2
        go_quiet (fail)
        go_wp2
        go_roundw
        case rel =>
          refine ⟨k' + 2, _, by omega, by omega, by go_num, rfl, fun j h0 hj hjn => ?_⟩
          by_cases e : j = k' + 1
          · subst e
            rw [show k' + 1 - 1 = k' by omega, ← HZ.out.1, ← HZ.out.2]
            omega
          · exact HA.out j h0 (by omega) hjn
        case measure => simp [intOf]; omega
    · have hall : L.Pairwise (· ≤ ·) := asc_of_adj L (fun j h0 hj => HA.out j h0 (by rw [HN.out] at hj; omega) (by rw [HN.out] at hj; exact hj))
      go_wp2
      go_ret
      exact ⟨⟨true, rfl, fun _ => hall, fun _ => rfl⟩, q, rfl⟩
set_option maxHeartbeats 400000 in
theorem bytes_yes (a : Option Addr) (n c : Nat) (w : World) (h : n ≤ 1048576) :
    Calls Try.prog 7 #[.slice a n c] w fun e w' => e = .returned (.bool true) ∧ w' = w := by
  go_enter Try.func7, Try.ntmps7
  go_wp2
  go_ret
  exact ⟨rfl, rfl⟩
set_option maxHeartbeats 400000 in
theorem bytes_no (a : Option Addr) (n c : Nat) (w : World) (h : ¬ n ≤ 1048576) (hm : n ≤ maxLen) :
    Calls Try.prog 7 #[.slice a n c] w fun e w' => e = .returned (.bool false) ∧ w' = w := by
  unfold maxLen at hm
  go_enter Try.func7, Try.ntmps7
  go_wp2
  go_ret
  exact ⟨rfl, rfl⟩
/-! ### The plain law of the script: each position put in its place, one after the other. -/
def insAll (L : List Int) : List Int := L.foldl ins []
theorem insAll_snoc (L : List Int) (k : Nat) (h : k < L.length) : insAll (L.take (k + 1)) = ins (insAll (L.take k)) (L.getD k 0) := by
  unfold insAll
  rw [List.take_succ_eq_append_getElem h, List.foldl_append, List.getD, List.getElem?_eq_getElem h]
  rfl
theorem foldl_perm : ∀ (L xs : List Int), (L.foldl ins xs).Perm (L ++ xs)
  | [], xs => List.Perm.refl _
  | y :: L, xs => by
    refine (foldl_perm L (ins xs y)).trans ?_
    refine (List.Perm.append_left L (ins_perm xs y)).trans ?_
    exact List.perm_middle
theorem insAll_perm (L : List Int) : (insAll L).Perm L := by
  have := foldl_perm L []
  rwa [List.append_nil] at this
theorem insAll_len (L : List Int) : (insAll L).length = L.length := (insAll_perm L).length_eq
theorem insAll_take_len (L : List Int) (k : Nat) (h : k ≤ L.length) : (insAll (L.take k)).length = k := by rw [insAll_len, List.length_take]; omega
set_option maxHeartbeats 1000000 in
theorem script_main (w : World) (a0 : Option Addr) (n cap : Nat) (L : List Int) (hn : L.length = n) (hl : n ≤ 4096) (h : Rd w a0 L) :
    Calls Try.prog 3 #[.slice a0 n cap] w fun e w' => e = .returned (.bool true) ∧ Below w.heap.size w w' := by
  have hb1 := bytes_yes a0 n cap w (by omega)
  have hz := znew_any w none 0 [] (Or.inl ⟨rfl, rfl, rfl⟩) List.Pairwise.nil
  have HR : Hid (Rd w a0 L) := h
  have HN : Hid (L.length = n) := hn
  clear h hn
  go_enter Try.func3, Try.ntmps3
  go_wp2_with fail
  refine hb1.mono ?_
  rintro e w' ⟨rfl, rfl⟩
  clear hb1
  go_wp2_with fail
  refine hz.mono ?_
  rintro e w1 ⟨rfl, hW1, o1⟩
  clear hz
  have HB1 : Hid (Below w'.heap.size w' w1) := ⟨o1.os, o1.tape, o1.output, o1.size, fun k hk => o1.block k hk (fun h => h)⟩
  have HW1 : Hid (Waits w1 w'.heap.size none 0 []) := hW1
  clear hW1 o1
  go_wp2_with fail
  go_loopw [4] (fun i wr => ∃ k a c, k ≤ n ∧ i = .int .i64 (k : Nat) ∧ Waits wr w'.heap.size a c (insAll (L.take k)) ∧ Below w'.heap.size w' wr ∧ (∀ j, InB a j → w'.heap.size ≤ j)) (fun i _ => n - (intOf i).toNat)
  case atStart => exact ⟨0, none, 0, Nat.zero_le _, rfl, HW1.out, HB1.out, fun j h => by obtain ⟨y, h, _⟩ := h; cases h⟩
  case round =>
    obtain ⟨k, a, c, hk, rfl, hW, hB, hA⟩ := hrel
    have HW : Hid (Waits wr w'.heap.size a c (insAll (L.take k))) := hW
    have HB : Hid (Below w'.heap.size w' wr) := hB
    have HA : Hid (∀ j, InB a j → w'.heap.size ≤ j) := hA
    clear hW hB hA
    by_cases hlt : k < n
    · have hll : k < L.length := by rw [HN.out]; exact hlt
      obtain ⟨b, o, rfl, hcell⟩ : ∃ b o, a0 = some ⟨b, o, none⟩ ∧ ∀ j, j < L.length → wr.cell? ⟨b, o + j, none⟩ = some (.int .i64 (L.getD j 0)) := by
        rcases HR.out.below HB.out with h | h
        · rw [h] at hll; simp at hll
        · exact h
      have hc := hcell k hll
      obtain ⟨z, hz⟩ : ∃ z, z = L.getD k 0 := ⟨_, rfl⟩
      rw [← hz] at hc
      have HS : Hid (insAll (L.take (k + 1)) = ins (insAll (L.take k)) z) := by show _ = _; rw [hz]; exact insAll_snoc L k hll
      have hlen := insAll_take_len L k (by rw [HN.out]; exact hk)
      have hwt := zwait_any wr w'.heap.size a c (insAll (L.take k)) z HW.out (by omega)
      clear hz hcell hll hlen
      go_wp2_with fail
      refine hwt.mono ?_
      rintro e w2 ⟨rfl, a', c', hW2, o2, hA2⟩
      clear hwt
      have R : Hid (Waits w2 w'.heap.size a' c' (insAll (L.take (k + 1))) ∧ Below w'.heap.size w' w2 ∧ (∀ j, InB a' j → w'.heap.size ≤ j)) := by
        refine ⟨by rw [HS.out]; exact hW2, Only.below HB.out o2 ?_ HB.out.size, fun j hj => ?_⟩
        · rintro j (rfl | h)
          · exact Nat.le_refl _
          · exact HA.out j h
        · rcases hA2 j hj with h | h
          · exact HA.out j h
          · exact Nat.le_trans HB.out.size h
      clear hW2 o2 hA2
      go_wp2_with fail
      go_roundw
      case rel => exact ⟨k + 1, a', c', by omega, by go_num, R.out.1, R.out.2.1, R.out.2.2⟩
      case measure => simp [intOf]; omega
    · obtain rfl : k = n := by omega
      have hfull : L.take k = L := List.take_of_length_le (by rw [HN.out]; exact Nat.le_refl _)
      have hW := HW.out
      rw [hfull] at hW
      have hlen : (insAll L).length = k := by rw [insAll_len]; exact HN.out
      have hwg := zwaiting_any wr w'.heap.size a c (insAll L) hW
      have hasc := asc_any wr a k c (insAll L) hlen (by omega) (Rd.of_owns hW.owns)
      have hasc' := hW.asc
      rw [hlen] at hwg
      have HG : Hid (Rd wr a (insAll L)) := Rd.of_owns hW.owns
      have HL : Hid ((insAll L).length = k) := hlen
      have HS : Hid ((insAll L).Pairwise (· ≤ ·)) := hasc'
      clear hfull hW hlen hasc' HW HA
      go_wp2_with fail
      refine hwg.mono ?_
      rintro e w2 ⟨rfl, rfl⟩
      clear hwg
      go_wp2_with fail
      refine hasc.mono ?_
      rintro e w3 ⟨⟨bb, rfl, hbb⟩, q, rfl⟩
      have hbt : bb = true := hbb.2 HS.out
      subst hbt
      clear hbb hasc
      go_wp2_with fail
      go_loopw [6] (fun i wr' => ∃ k2 : Nat, k2 ≤ k ∧ i = .int .i64 k2 ∧ Rd wr' a (insAll L) ∧ Rd wr' a0 L ∧ Below w'.heap.size w' wr') (fun i _ => k - (intOf i).toNat)
      case atStart => exact ⟨0, Nat.zero_le _, rfl, HG.out, (show Rd w2 a0 L from HR.out.below HB.out), HB.out.os, HB.out.tape, HB.out.output, HB.out.size, HB.out.block⟩
      case round =>
        obtain ⟨k2, hk2, rfl, h1, h2, h3⟩ := hrel
        have H1 : Hid (Rd wr a (insAll L)) := h1
        have HRd : Hid (Rd wr a0 L) := h2
        have HB3 : Hid (Below w'.heap.size w' wr) := h3
        clear h1 h2 h3
        by_cases hlt2 : k2 < k
        · have hll : k2 < L.length := by rw [HN.out]; exact hlt2
          obtain ⟨b, o, rfl, hcell⟩ : ∃ b o, a0 = some ⟨b, o, none⟩ ∧ ∀ j, j < L.length → wr.cell? ⟨b, o + j, none⟩ = some (.int .i64 (L.getD j 0)) := by
            rcases HRd.out with h | h
            · rw [h] at hll; simp at hll
            · exact h
          have hc := hcell k2 hll
          obtain ⟨z, hz⟩ : ∃ z, z = L.getD k2 0 := ⟨_, rfl⟩
          rw [← hz] at hc
          have cnt1 := fun n => count_any (wr.drewN n) a k c (insAll L) z HL.out (by omega) H1.out
          have cnt2 := fun n => count_any (wr.drewN n) (some ⟨b, o, none⟩) k cap L z HN.out (by omega) HRd.out
          rw [(insAll_perm L).count_eq z] at cnt1
          have hcl : L.count z ≤ 4096 := Nat.le_trans List.count_le_length (by rw [HN.out]; exact hl)
          obtain ⟨m, hm⟩ : ∃ m, m = L.count z := ⟨_, rfl⟩
          rw [← hm] at cnt1 cnt2 hcl
          clear hz hcell hll hm
          go_wp2_with fail
          go_quiet (first | (go_at_call_of 12 (Value.slice a k c); exact Calls.quiet_of_same (cnt1 _)) | (go_at_call_of 12 (Value.slice (some ⟨b, o, none⟩) k cap); exact Calls.quiet_of_same (cnt2 _)))
          go_wp2_with fail
          go_roundw
          case rel => exact ⟨k2 + 1, by omega, by go_num, H1.out, HRd.out, HB3.out.os, HB3.out.tape, HB3.out.output, HB3.out.size, HB3.out.block⟩
          case measure => simp [intOf]; omega
        · go_wp2_with fail
          go_ret
          exact ⟨rfl, HB3.out⟩
set_option maxHeartbeats 400000 in
theorem script_else (w : World) (a0 : Option Addr) (n cap : Nat) (hm : n ≤ maxLen) (h : ¬ n ≤ 4096) :
    Calls Try.prog 3 #[.slice a0 n cap] w fun e w' => e = .returned (.bool true) ∧ w' = w := by
  by_cases h1 : n ≤ 1048576
  · have hb1 := bytes_yes a0 n cap w h1
    go_enter Try.func3, Try.ntmps3
    go_wp2_with (go_at_call 7; refine hb1.mono ?_; rintro e w' ⟨rfl, rfl⟩)
    go_ret
    exact ⟨rfl, rfl⟩
  · have hb1 := bytes_no a0 n cap w h1 hm
    go_enter Try.func3, Try.ntmps3
    go_wp2_with (go_at_call 7; refine hb1.mono ?_; rintro e w' ⟨rfl, rfl⟩)
    go_ret
    exact ⟨rfl, rfl⟩
/-- A slice of integers that came in, as the shells' proofs tell it, read. -/
theorem rd_of {w : World} {a : Option Addr} {len cap : Nat} {zs : List Int}
    (h : (a = none ∧ len = 0 ∧ cap = 0 ∧ zs = []) ∨ ∃ x, a = some x ∧ len ≤ cap ∧ cap ≤ maxLen ∧ zs.length = cap ∧ (∀ i, i < zs.length → w.cell? (x.add i) = some (.int .i64 (zs.getD i 0))) ∧ ∀ n ∈ zs, (Lit.int .i64 n).wf = true) :
    (zs.take len).length = len ∧ len ≤ maxLen ∧ Rd w a (zs.take len) := by
  rcases h with ⟨rfl, rfl, rfl, rfl⟩ | ⟨x, rfl, h1, h2, h3, h4, _⟩
  · exact ⟨rfl, Nat.zero_le _, Or.inl rfl⟩
  · have hl : (zs.take len).length = len := by rw [List.length_take]; omega
    refine ⟨hl, Nat.le_trans h1 h2, ?_⟩
    rcases Nat.eq_zero_or_pos len with e | e
    · exact Or.inl (by rw [e]; rfl)
    · obtain ⟨b, o, sp⟩ := x
      have h0 := h4 0 (by omega)
      have hsp : sp = none := by
        cases sp with
        | none => rfl
        | some s =>
          exfalso
          have hadd : (⟨b, o, some s⟩ : Addr).add 0 = ⟨b, o, some s⟩ := rfl
          rw [hadd] at h0
          unfold World.cell? at h0
          split at h0
          · simp at h0
          · cases h0
      subst hsp
      refine Or.inr ⟨b, o, rfl, fun j hj => ?_⟩
      rw [hl] at hj
      have hadd : (⟨b, o, none⟩ : Addr).add j = ⟨b, o + j, none⟩ := by unfold Addr.add; split <;> simp_all
      have hj' := h4 j (by omega)
      rw [hadd] at hj'
      rw [hj']
      congr 2
      rw [List.getD, List.getD, List.getElem?_take, if_pos hj]
end Go.Proofs.Qxb6613301a
