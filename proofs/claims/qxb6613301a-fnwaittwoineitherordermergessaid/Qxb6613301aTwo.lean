/-
  THE LAW FnWaitTwoInEitherOrderMerges: its walk.
-/
import Derived.Test.Qxb6613301aMerge
namespace Go.Proofs.Qxb6613301a
open Go.RowKit
set_option maxHeartbeats 400000 in
theorem bytes3_yes (a : Option Addr) (n c : Nat) (x y : Int) (w : World) (h : n ≤ 1048576) :
    Calls Try.prog 13 #[.slice a n c, .int .i64 x, .int .i64 y] w fun e w' => e = .returned (.bool true) ∧ w' = w := by
  go_enter Try.func13, Try.ntmps13
  go_wp2
  go_ret
  exact ⟨rfl, rfl⟩
set_option maxHeartbeats 400000 in
theorem bytes3_no (a : Option Addr) (n c : Nat) (x y : Int) (w : World) (h : ¬ n ≤ 1048576) (hm : n ≤ maxLen) :
    Calls Try.prog 13 #[.slice a n c, .int .i64 x, .int .i64 y] w fun e w' => e = .returned (.bool false) ∧ w' = w := by
  unfold maxLen at hm
  go_enter Try.func13, Try.ntmps13
  go_wp2
  go_ret
  exact ⟨rfl, rfl⟩
theorem Waits.keep {S : Nat → Prop} {w w' : World} {B : Nat} {a : Option Addr} {c : Nat} {xs : List Int} (h : Waits w B a c xs) (o : Only S w w') (hB : ¬ S B) (ha : ∀ k, InB a k → ¬ S k) : Waits w' B a c xs := by
  obtain ⟨⟨m, hr⟩, ho, hap, hs⟩ := h
  exact ⟨⟨m, o.rowIs hr hB⟩, o.owns ho ha, hap, hs⟩
theorem Waits.lt {w : World} {B : Nat} {a : Option Addr} {c : Nat} {xs : List Int} (h : Waits w B a c xs) : B < w.heap.size := by
  obtain ⟨m, hr⟩ := h.row
  exact hr.lt
theorem Waits.inb {w : World} {B : Nat} {a : Option Addr} {c : Nat} {xs : List Int} (h : Waits w B a c xs) (k : Nat) (hk : InB a k) : k < w.heap.size := by
  obtain ⟨y, rfl, rfl⟩ := hk
  rcases h.owns with ⟨e, _⟩ | ⟨g, f, e, _, _, h3, _⟩
  · cases e
  · cases e; exact h3.lt
/-- Two sorted lists of the same numbers are one. -/
theorem one_of {A B C : List Int} (ha : A.Pairwise (· ≤ ·)) (hb : B.Pairwise (· ≤ ·)) (h1 : A.Perm C) (h2 : B.Perm C) : A = B :=
  List.Perm.eq_of_pairwise (le := (· ≤ ·)) (fun _ _ _ _ h h' => Int.le_antisymm h h') ha hb (h1.trans h2.symm)
theorem ins2_perm (L : List Int) (x y : Int) : (ins (ins L x) y).Perm (y :: x :: L) := (ins_perm _ y).trans (List.Perm.cons y (ins_perm L x))
/-- One of the two pairings made: a clone, a pairing over it, two positions put in: as the law's text goes. -/
structure Made (v v' : World) (B : Nat) (a : Option Addr) (c : Nat) (xs : List Int) : Prop where
  now : Waits v' B a c xs
  only : Only (fun _ => False) v v'
  new : v.heap.size ≤ B
  newA : ∀ k, InB a k → v.heap.size ≤ k
theorem Made.wait {v v1 v2 : World} {B : Nat} {a a' : Option Addr} {c c' : Nat} {xs : List Int} {x : Int} (h : Made v v1 B a c xs) (h1 : Waits v2 B a' c' (ins xs x)) (o : Only (fun k => k = B ∨ InB a k) v1 v2) (hA : ∀ k, InB a' k → InB a k ∨ v1.heap.size ≤ k) : Made v v2 B a' c' (ins xs x) := by
  refine ⟨h1, h.only.trans o (fun k hk hS => ?_), h.new, fun k hk => ?_⟩
  · rcases hS with rfl | hS
    · have := h.new; omega
    · have := h.newA k hS; omega
  · rcases hA k hk with h' | h'
    · exact h.newA k h'
    · exact Nat.le_trans h.only.size h'
theorem Rd.only {w w' : World} {a : Option Addr} {L : List Int} (h : Rd w a L) (o : Only (fun _ => False) w w') : Rd w' a L :=
  h.below ⟨o.os, o.tape, o.output, o.size, fun k hk => o.block k hk (fun h => h)⟩
theorem made_start {v v1 v2 : World} {a : Option Addr} {c : Nat} {L : List Int} (o1 : Only (fun _ => False) v v1) (hA : ∀ k, InB a k → v.heap.size ≤ k) (hW : Waits v2 v1.heap.size a c L) (o2 : Only (fun _ => False) v1 v2) : Made v v2 v1.heap.size a c L :=
  ⟨hW, o1.trans o2 (fun _ _ h => h), o1.size, hA⟩
set_option maxHeartbeats 2000000 in
theorem two_main (w : World) (a0 : Option Addr) (n c0 : Nat) (L : List Int) (x y : Int) (hn : L.length = n) (hl : n ≤ 65536) (h : Rd w a0 L) (lo hi : Int) (hlo : (y < x ∧ lo = y ∧ hi = x) ∨ (¬ y < x ∧ lo = x ∧ hi = y)) :
    Calls Try.prog 4 #[.slice a0 n c0, .int .i64 x, .int .i64 y] w fun e w' => e = .returned (.bool true) ∧ Below w.heap.size w w' := by
  have hb1 := bytes3_yes a0 n c0 x y w (by omega)
  have hasc := asc_any w a0 n c0 L hn (by omega) h
  have HR : Hid (Rd w a0 L) := h
  have HN : Hid (L.length = n) := hn
  have HLO : Hid ((y < x ∧ lo = y ∧ hi = x) ∨ (¬ y < x ∧ lo = x ∧ hi = y)) := hlo
  clear h hn hlo
  go_enter Try.func4, Try.ntmps4
  go_wp2_with fail
  refine hb1.mono ?_
  rintro e w' ⟨rfl, rfl⟩
  clear hb1
  go_wp2_with fail
  refine hasc.mono ?_
  rintro e w1 ⟨⟨bb, rfl, hbb⟩, q, hq⟩
  clear hasc
  have HO1 : Hid (Only (fun _ => False) w' w1) := by rw [hq]; exact Only.drewN _ _ _
  clear hq
  cases bb
  · clear hbb
    go_wp2_with fail
    go_ret
    exact ⟨rfl, HO1.out.os, HO1.out.tape, HO1.out.output, HO1.out.size, fun k hk => HO1.out.block k hk (fun h => h)⟩
  · have HS : Hid (L.Pairwise (· ≤ ·)) := hbb.1 rfl
    clear hbb
    go_wp2_with fail
    -- p
    refine (clone_any w1 a0 n c0 L HN.out (by omega) (HR.out.only HO1.out)).mono ?_
    rintro e w2 ⟨aP, cP, rfl, ho2, o2, hA2⟩
    have hz := znew_any w2 aP cP L ho2 HS.out
    rw [HN.out] at hz
    have H2 : Hid (Only (fun _ => False) w1 w2 ∧ ∀ k, InB aP k → w1.heap.size ≤ k) := ⟨o2, hA2⟩
    clear ho2 o2 hA2
    go_wp2_with fail
    refine hz.mono ?_
    rintro e w3 ⟨rfl, hW3, o3⟩
    have M3 : Hid (Made w1 w3 w2.heap.size aP cP L) := made_start H2.out.1 H2.out.2 hW3 o3
    clear hz hW3 o3 H2
    go_wp2_with fail
    refine (zwait_any w3 w2.heap.size aP cP L x M3.out.now (by rw [HN.out]; omega)).mono ?_
    rintro e w4 ⟨rfl, aP4, cP4, hW4, o4, hA4⟩
    have M4 : Hid (Made w1 w4 w2.heap.size aP4 cP4 (ins L x)) := M3.out.wait hW4 o4 hA4
    clear hW4 o4 hA4 M3
    go_wp2_with fail
    refine (zwait_any w4 w2.heap.size aP4 cP4 (ins L x) y M4.out.now (by rw [ins_len, HN.out]; omega)).mono ?_
    rintro e w5 ⟨rfl, aP5, cP5, hW5, o5, hA5⟩
    have M5 : Hid (Made w1 w5 w2.heap.size aP5 cP5 (ins (ins L x) y)) := M4.out.wait hW5 o5 hA5
    clear hW5 o5 hA5 M4
    have HO5 : Hid (Only (fun _ => False) w' w5) := HO1.out.trans M5.out.only (fun _ _ h => h)
    go_wp2_with fail
    -- q
    refine (clone_any w5 a0 n c0 L HN.out (by omega) (HR.out.only HO5.out)).mono ?_
    rintro e w6 ⟨aQ, cQ, rfl, ho6, o6, hA6⟩
    have hz := znew_any w6 aQ cQ L ho6 HS.out
    rw [HN.out] at hz
    have H6 : Hid (Only (fun _ => False) w5 w6 ∧ ∀ k, InB aQ k → w5.heap.size ≤ k) := ⟨o6, hA6⟩
    clear ho6 o6 hA6
    go_wp2_with fail
    refine hz.mono ?_
    rintro e w7 ⟨rfl, hW7, o7⟩
    have M7 : Hid (Made w5 w7 w6.heap.size aQ cQ L) := made_start H6.out.1 H6.out.2 hW7 o7
    clear hz hW7 o7 H6
    go_wp2_with fail
    refine (zwait_any w7 w6.heap.size aQ cQ L y M7.out.now (by rw [HN.out]; omega)).mono ?_
    rintro e w8 ⟨rfl, aQ8, cQ8, hW8, o8, hA8⟩
    have M8 : Hid (Made w5 w8 w6.heap.size aQ8 cQ8 (ins L y)) := M7.out.wait hW8 o8 hA8
    clear hW8 o8 hA8 M7
    go_wp2_with fail
    refine (zwait_any w8 w6.heap.size aQ8 cQ8 (ins L y) x M8.out.now (by rw [ins_len, HN.out]; omega)).mono ?_
    rintro e w9 ⟨rfl, aQ9, cQ9, hW9, o9, hA9⟩
    have M9 : Hid (Made w5 w9 w6.heap.size aQ9 cQ9 (ins (ins L y) x)) := M8.out.wait hW9 o9 hA9
    clear hW9 o9 hA9 M8
    have HO9 : Hid (Only (fun _ => False) w' w9) := HO5.out.trans M9.out.only (fun _ _ h => h)
    -- the merge
    have hmg := merge_any w9 a0 n c0 L lo hi HN.out (by omega) (HR.out.only HO9.out) HS.out (by rcases HLO.out with h | h <;> omega)
    have hlen : (ins (ins L x) y).length = n + 2 := by rw [ins_len, ins_len, HN.out]
    have hlen2 : (ins (ins L y) x).length = n + 2 := by rw [ins_len, ins_len, HN.out]
    have fin : ∀ w10 aM O, MInv L lo hi n true true O → MMem w9 w10 aM (n + 2) O (n + 2) →
        (∀ v, Only (fun _ => False) w10 v → Calls Try.prog 10 #[.pointer (some ⟨w2.heap.size, 0, none⟩)] v fun e w' => e = .returned (.slice aP5 (n + 2) cP5) ∧ w' = v) ∧
        (∀ v, Only (fun _ => False) w10 v → Calls Try.prog 10 #[.pointer (some ⟨w6.heap.size, 0, none⟩)] v fun e w' => e = .returned (.slice aQ9 (n + 2) cQ9) ∧ w' = v) ∧
        (∀ v, Only (fun _ => False) w10 v → Calls Try.prog 16 #[.slice aP5 (n + 2) cP5, .slice aM (n + 2) (n + 2)] v fun e w' => e = .returned (.bool true) ∧ ∃ q, w' = v.drewN q) ∧
        (∀ v, Only (fun _ => False) w10 v → Calls Try.prog 16 #[.slice aQ9 (n + 2) cQ9, .slice aM (n + 2) (n + 2)] v fun e w' => e = .returned (.bool true) ∧ ∃ q, w' = v.drewN q) ∧
        Only (fun _ => False) w' w10 := by
      intro w10 aM O hI hM
      have hO : O.Perm (lo :: hi :: L) := by
        have := hI.perm
        rw [List.take_of_length_le (by rw [HN.out]; exact Nat.le_refl _)] at this
        exact this
      have hxy : (lo :: hi :: L).Perm (y :: x :: L) := by
        rcases HLO.out with ⟨_, rfl, rfl⟩ | ⟨_, rfl, rfl⟩
        · exact List.Perm.refl _
        · exact List.Perm.swap _ _ _
      have hp1 : Waits w10 w2.heap.size aP5 cP5 (ins (ins L x) y) := (M5.out.now.keep M9.out.only (fun h => h) (fun _ _ h => h)).keep hM.only (fun h => h) (fun _ _ h => h)
      have hp2 : Waits w10 w6.heap.size aQ9 cQ9 (ins (ins L y) x) := M9.out.now.keep hM.only (fun h => h) (fun _ _ h => h)
      have e1 : ins (ins L x) y = O := one_of (C := y :: x :: L) hp1.asc hI.asc (ins2_perm L x y) (hO.trans hxy)
      have e2 : ins (ins L y) x = O := one_of (C := y :: x :: L) hp2.asc hI.asc ((ins2_perm L y x).trans (List.Perm.swap _ _ _)) (hO.trans hxy)
      have hOl : O.length = n + 2 := hM.own.2
      refine ⟨fun v hv => ?_, fun v hv => ?_, fun v hv => ?_, fun v hv => ?_, HO9.out.trans hM.only (fun _ _ h => h)⟩
      · have := zwaiting_any v w2.heap.size aP5 cP5 _ (hp1.keep hv (fun h => h) (fun _ _ h => h))
        rwa [hlen] at this
      · have := zwaiting_any v w6.heap.size aQ9 cQ9 _ (hp2.keep hv (fun h => h) (fun _ _ h => h))
        rwa [hlen2] at this
      · refine same_any v aP5 aM (n + 2) cP5 (n + 2) O hOl (by omega) ?_ ((Rd.of_owns hM.own.1).only hv)
        rw [← e1]
        exact (Rd.of_owns hp1.owns).only hv
      · refine same_any v aQ9 aM (n + 2) cQ9 (n + 2) O hOl (by omega) ?_ ((Rd.of_owns hM.own.1).only hv)
        rw [← e2]
        exact (Rd.of_owns hp2.owns).only hv
    have FIN : Hid _ := fin
    clear fin hlen hlen2 M5 M9 HO1 HO5 HO9 HS HR
    rcases HLO.out with ⟨hyx, rfl, rfl⟩ | ⟨hyx, rfl, rfl⟩
    all_goals
      clear HLO
      go_wp2_with fail
      refine hmg.mono ?_
      rintro e w10 ⟨aM, O, rfl, hI, hM⟩
      have F := FIN.out w10 aM O hI hM
      have g1 := F.1
      have g2 := F.2.1
      have g3 := F.2.2.1
      have g4 := F.2.2.2.1
      have HO10 : Hid (Only (fun _ => False) w' w10) := F.2.2.2.2
      clear hmg FIN F hI hM
      go_wp2_with fail
      refine (g1 w10 (Only.refl _ _)).mono ?_
      rintro e w11 ⟨rfl, rfl⟩
      go_wp2_with fail
      refine (g3 _ (Only.refl _ _)).mono ?_
      rintro e w12 ⟨rfl, q1, hq1⟩
      have o12 : Only (fun _ => False) w11 w12 := by rw [hq1]; exact Only.drewN _ _ _
      have HO12 : Hid (Only (fun _ => False) w11 w12) := o12
      clear hq1 g1 g3
      have g2' := g2 w12 o12
      have g4' := g4 w12 o12
      clear g2 g4 o12
      go_wp2_with fail
      refine g2'.mono ?_
      rintro e w13 ⟨rfl, rfl⟩
      clear g2'
      go_wp2_with fail
      refine g4'.mono ?_
      rintro e w14 ⟨rfl, q2, hq2⟩
      have HO14 : Hid (Only (fun _ => False) w13 w14) := by rw [hq2]; exact Only.drewN _ _ _
      clear hq2 g4'
      go_wp2_with fail
      go_ret
      have o := (HO10.out.trans HO12.out (fun _ _ h => h)).trans HO14.out (fun _ _ h => h)
      exact ⟨rfl, o.os, o.tape, o.output, o.size, fun k hk => o.block k hk (fun h => h)⟩
set_option maxHeartbeats 400000 in
theorem two_else (w : World) (a0 : Option Addr) (n c0 : Nat) (x y : Int) (hm : n ≤ maxLen) (h : ¬ n ≤ 65536) :
    Calls Try.prog 4 #[.slice a0 n c0, .int .i64 x, .int .i64 y] w fun e w' => e = .returned (.bool true) ∧ w' = w := by
  by_cases h1 : n ≤ 1048576
  · have hb1 := bytes3_yes a0 n c0 x y w h1
    go_enter Try.func4, Try.ntmps4
    go_wp2_with (go_at_call 13; refine hb1.mono ?_; rintro e w' ⟨rfl, rfl⟩)
    go_ret
    exact ⟨rfl, rfl⟩
  · have hb1 := bytes3_no a0 n c0 x y w h1 hm
    go_enter Try.func4, Try.ntmps4
    go_wp2_with (go_at_call 13; refine hb1.mono ?_; rintro e w' ⟨rfl, rfl⟩)
    go_ret
    exact ⟨rfl, rfl⟩
theorem two_walk (w : World) (a0 : Option Addr) (n c0 : Nat) (L : List Int) (x y : Int) (hn : L.length = n) (hm : n ≤ maxLen) (h : Rd w a0 L) :
    Calls Try.prog 4 #[.slice a0 n c0, .int .i64 x, .int .i64 y] w fun e w' => e = .returned (.bool true) ∧ Below w.heap.size w w' := by
  by_cases hl : n ≤ 65536
  · by_cases hyx : y < x
    · exact two_main w a0 n c0 L x y hn hl h y x (Or.inl ⟨hyx, rfl, rfl⟩)
    · exact two_main w a0 n c0 L x y hn hl h x y (Or.inr ⟨hyx, rfl, rfl⟩)
  · refine (two_else w a0 n c0 x y hm hl).mono ?_
    rintro e w' ⟨rfl, rfl⟩
    exact ⟨rfl, Below.refl _ _⟩
end Go.Proofs.Qxb6613301a
