/-
  THE LAWS' OWN HELPERS: zzUpperHex, zzKept, zzIsCanonicalSegment (at a segment that is the canonical one).
-/
import Derived.Test.Qxb6612895aDoorEscape
import Derived.WalkLawsBesides
namespace Go.Proofs.Qxb6612895aDoor
open Go.RowKit
theorem ret_bool {a b : Bool} (h : a = b) : Ending.returned (.bool a) = .returned (.bool b) := by rw [h]
theorem ret_int {k : IntKind} {a b : Int} (h : a = b) : Ending.returned (.int k a) = .returned (.int k b) := by rw [h]
theorem ret_str {a b : ByteArray} (h : a = b) : Ending.returned (.string a) = .returned (.string b) := by rw [h]
theorem kept_iff (c : UInt8) : kept c = decide ((97 ≤ c.toNat ∧ c.toNat ≤ 122) ∨ (65 ≤ c.toNat ∧ c.toNat ≤ 90) ∨ (48 ≤ c.toNat ∧ c.toNat ≤ 57) ∨ c.toNat = 45 ∨ c.toNat = 95 ∨ c.toNat = 46 ∨ c.toNat = 126 ∨ c.toNat = 36 ∨ c.toNat = 38 ∨ c.toNat = 43 ∨ c.toNat = 58 ∨ c.toNat = 61 ∨ c.toNat = 64) :=
  eq_of_beq (all_u8 (fun c => kept c == decide ((97 ≤ c.toNat ∧ c.toNat ≤ 122) ∨ (65 ≤ c.toNat ∧ c.toNat ≤ 90) ∨ (48 ≤ c.toNat ∧ c.toNat ≤ 57) ∨ c.toNat = 45 ∨ c.toNat = 95 ∨ c.toNat = 46 ∨ c.toNat = 126 ∨ c.toNat = 36 ∨ c.toNat = 38 ∨ c.toNat = 43 ∨ c.toNat = 58 ∨ c.toNat = 61 ∨ c.toNat = 64)) (by decide +kernel) c)
theorem hexd_toNat (n : Nat) (h : n < 16) : (n < 10 → (hexd n).toNat = 48 + n) ∧ (10 ≤ n → (hexd n).toNat = 55 + n) := by
  unfold hexd
  constructor
  · intro h'; rw [if_pos h', UInt8.toNat_ofNat']; omega
  · intro h'; rw [if_neg (by omega), UInt8.toNat_ofNat']; omega
set_option maxHeartbeats 400000 in
theorem upper_any (n : Nat) (hn : n < 16) (w : World) :
    Calls Tryd.prog 23 #[.int .u8 ((hexd n).toNat : Int)] w fun e w' => e = .returned (.int .i64 (n : Int)) ∧ w' = w := by
  have h := hexd_toNat n hn
  obtain ⟨v, HV⟩ : ∃ v : Nat, Hid (v = (hexd n).toNat) := ⟨_, rfl⟩
  rw [← HV.out] at h ⊢
  by_cases h10 : n < 10
  · have hv := h.1 h10
    have h1 : 48 ≤ v := by omega
    have h2 : v ≤ 57 := by omega
    have H : Hid (v = 48 + n) := hv
    clear hv h HV
    go_enter Tryd.func23, Tryd.ntmps23
    go_wp2
    go_ret
    exact ⟨ret_int (by have := H.out; omega), rfl⟩
  · have hv := h.2 (by omega)
    have h1 : 65 ≤ v := by omega
    have h2 : v ≤ 70 := by omega
    have H : Hid (v = 55 + n) := hv
    clear hv h HV
    go_enter Tryd.func23, Tryd.ntmps23
    go_wp2
    go_ret
    exact ⟨ret_int (by have := H.out; omega), rfl⟩
set_option maxHeartbeats 1000000 in
theorem kept_any (c : UInt8) (w : World) :
    Calls Tryd.prog 24 #[.int .u8 (c.toNat : Int)] w fun e w' => e = .returned (.bool (kept c)) ∧ w' = w := by
  obtain ⟨b, HB⟩ : ∃ b : Bool, Hid (b = kept c) := ⟨_, rfl⟩
  rw [← HB.out]
  have hb := kept_iff c
  rw [← HB.out] at hb
  obtain ⟨v, HV⟩ : ∃ v : Nat, Hid (v = c.toNat) := ⟨_, rfl⟩
  rw [← HV.out] at hb ⊢
  have H : Hid (b = decide ((97 ≤ v ∧ v ≤ 122) ∨ (65 ≤ v ∧ v ≤ 90) ∨ (48 ≤ v ∧ v ≤ 57) ∨ v = 45 ∨ v = 95 ∨ v = 46 ∨ v = 126 ∨ v = 36 ∨ v = 38 ∨ v = 43 ∨ v = 58 ∨ v = 61 ∨ v = 64)) := hb
  clear hb HB HV
  go_enter Tryd.func24, Tryd.ntmps24
  go_wp2
  all_goals go_ret
  all_goals refine ⟨ret_bool (Eq.trans ?_ H.out.symm), rfl⟩
  all_goals clear H
  all_goals try simp only [beq_iff_eq, beq_eq_false_iff_ne, ne_eq] at *
  all_goals first | exact (decide_eq_true (by omega)).symm | exact (decide_eq_false (by omega)).symm
theorem getB (s : ByteArray) (j : Nat) (h : j < s.size) (b : UInt8) (hb : s.data.toList[j]? = some b) : s[j]'h = b := by
  have h' : j < s.data.toList.length := by rw [llen]; exact h
  rw [List.getElem?_eq_getElem h'] at hb
  have := Option.some.inj hb
  rw [← this]
  rfl
theorem encB_list (s : ByteArray) : (encB s).data.toList = enc s.data.toList := rfl
set_option maxHeartbeats 1000000 in
theorem canon_any (t : ByteArray) (w : World) (hs : t.size ≤ 1048576) :
    Calls Tryd.prog 11 #[.string (encB t), .string t] w fun e w' => e = .returned (.bool true) ∧ w' = w := by
  have hEs : (encB t).size ≤ 3145728 := by have := (encB_le t).2; omega
  obtain ⟨E, HE⟩ : ∃ E, Hid (E = encB t) := ⟨_, rfl⟩
  rw [← HE.out] at hEs ⊢
  have HEl : Hid (E.data.toList = enc t.data.toList) := by show _ = _; rw [HE.out]; rfl
  have HEs : Hid (E.size = (enc t.data.toList).length) := by show _ = _; rw [HE.out, encB_size]
  go_enter Tryd.func11, Tryd.ntmps11
  go_wp2
  go_loop [5, 6] (fun i j => ∃ k m : Nat, k ≤ t.size ∧ i = .int .i64 m ∧ j = .int .i64 k ∧ at_ t.data.toList k = m) (fun _ j => t.size - (intOf j).toNat)
  case atStart => exact ⟨0, 0, Nat.zero_le _, rfl, rfl, at_zero _⟩
  case round =>
    obtain ⟨k, m, hk, rfl, rfl, hat⟩ := hrel
    have HAT : Hid (at_ t.data.toList k = m) := hat
    clear hat
    by_cases hlt : k < t.size
    · have hll : k < t.data.toList.length := by rw [llen]; exact hlt
      have hm0 := at_lt t.data.toList k hll
      rw [HAT.out, ← HEs.out] at hm0
      obtain ⟨c, HC⟩ : ∃ c, c = t.data.toList[k] := ⟨_, rfl⟩
      have hcg : t.data.toList.getD k 0 = c := by rw [HC, List.getD, List.getElem?_eq_getElem hll]; rfl
      have hT : ∀ h, t[k]'h = c := fun h => getB t k h c (by rw [HC]; exact List.getElem?_eq_getElem hll)
      have hen := enc_at t.data.toList k hll
      rw [← HC] at hm0 hen
      clear HC
      rw [HAT.out, ← HEl.out] at hen
      have hcb : c.toNat ≤ 255 := by have := c.toNat_lt; omega
      cases hkc : kept c
      · have h3 := at_not t.data.toList k hll (by rw [hcg]; exact hkc)
        rw [enc1_not hkc] at hm0 hen
        simp only [List.length_cons, List.length_nil] at hm0
        have e0 : ∀ h, (E[m]'h).toNat = 37 := fun h => by rw [getB E m h 37 (hen 0 (by simp))]; rfl
        have e1 : ∀ h, (E[m + 1]'h).toNat = (hexd (c.toNat / 16)).toNat := fun h => by rw [getB E (m + 1) h _ (hen 1 (by simp))]
        have e2 : ∀ h, (E[m + 2]'h).toNat = (hexd (c.toNat % 16)).toNat := fun h => by rw [getB E (m + 2) h _ (hen 2 (by simp))]
        obtain ⟨a, ha⟩ : ∃ a, a = c.toNat / 16 := ⟨_, rfl⟩
        obtain ⟨b, hb⟩ : ∃ b, b = c.toNat % 16 := ⟨_, rfl⟩
        have Hab : Hid (c.toNat = a * 16 + b) := by show _ = _; omega
        have ha1 : a ≤ 15 := by omega
        have hb1 : b ≤ 15 := by omega
        rw [← ha] at e1
        rw [← hb] at e2
        have u1 := upper_any a (by omega) w
        have u2 := upper_any b (by omega) w
        obtain ⟨x1, Hx1⟩ : ∃ x, Hid (x = (hexd a).toNat) := ⟨_, rfl⟩
        obtain ⟨x2, Hx2⟩ : ∃ x, Hid (x = (hexd b).toNat) := ⟨_, rfl⟩
        rw [← Hx1.out] at e1 u1
        rw [← Hx2.out] at e2 u2
        have kk := kept_any c w
        rw [hkc, Hab.out, show ((a * 16 + b : Nat) : Int) = (a : Int) * 16 + (b : Int) from by omega] at kk
        have hT' : ∀ h, (t[k]'h).toNat = a * 16 + b := fun h => by rw [hT h]; exact Hab.out
        have H3 : Hid (at_ t.data.toList (k + 1) = m + 3) := by show _ = _; rw [h3, HAT.out]
        clear h3 hen hll hcg ha hb hT hcb hkc
        go_wp2_with fail
        refine u1.mono ?_
        rintro e w' ⟨rfl, rfl⟩
        go_wp2_with fail
        refine u2.mono ?_
        rintro e w' ⟨rfl, rfl⟩
        go_wp2_with fail
        refine kk.mono ?_
        rintro e w' ⟨rfl, rfl⟩
        go_wp2_with fail
        go_round
        case rel => exact ⟨k + 1, m + 3, by omega, by go_num, by go_num, H3.out⟩
        case measure => simp [intOf]; omega
      · have h3 := at_kept t.data.toList k hll (by rw [hcg]; exact hkc)
        rw [enc1_kept hkc] at hm0 hen
        simp only [List.length_cons, List.length_nil] at hm0
        have e0 : ∀ h, E[m]'h = c := fun h => getB E m h c (hen 0 (by simp))
        have h37 : ¬ ((c.toNat : Int) = 37) := by
          intro h
          have hc : c = 37 := UInt8.toNat_inj.1 (by show c.toNat = 37; omega)
          rw [hc, kept37] at hkc
          cases hkc
        have kk := kept_any c w
        rw [hkc] at kk
        have H3 : Hid (at_ t.data.toList (k + 1) = m + 1) := by show _ = _; rw [h3, HAT.out]
        clear h3 hen hll hcg
        go_wp2_with fail
        refine kk.mono ?_
        rintro e w' ⟨rfl, rfl⟩
        go_wp2_with fail
        go_round
        case rel => exact ⟨k + 1, m + 1, by omega, by go_num, by go_num, H3.out⟩
        case measure => simp [intOf]; omega
    · have hmE : ¬ m < E.size := by rw [HEs.out, ← HAT.out, at_full _ _ (by rw [llen]; omega)]; omega
      have hkt : k = t.size := by omega
      subst hkt
      go_wp2_with fail
      go_ret
      exact ⟨rfl, rfl⟩
end Go.Proofs.Qxb6612895aDoor
