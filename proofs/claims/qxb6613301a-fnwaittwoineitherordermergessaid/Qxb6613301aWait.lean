/-
  (*pairing).wait KEEPS THE POSITIONS ASCENDING: the pairing in memory ('Waits'), what wait does to it.
-/
import Derived.Test.Qxb6613301aBase
import Derived.Laws.Pointers
namespace Go.Proofs.Qxb6613301a
open Go.RowKit
theorem Only.mono {S S' : Nat → Prop} {w w' : World} (h : Only S w w') (hS : ∀ k, S k → S' k) : Only S' w w' := ⟨h.os, h.tape, h.output, h.size, fun k hk hn => h.block k hk (fun h' => hn (hS k h'))⟩
def ins (xs : List Int) (x : Int) : List Int := insAt xs (xs.countP (· < x)) x
theorem ins_len (xs : List Int) (x : Int) : (ins xs x).length = xs.length + 1 := insAt_len _ _ _ List.countP_le_length
theorem countP_zero {x : Int} : ∀ {xs : List Int}, (∀ y ∈ xs, x ≤ y) → xs.countP (· < x) = 0
  | [], _ => rfl
  | y :: ys, h => by
    rw [List.countP_cons_of_neg (by have := h y List.mem_cons_self; simp; omega)]
    exact countP_zero fun z hz => h z (List.mem_cons_of_mem _ hz)
theorem parted (x : Int) : ∀ {xs : List Int}, xs.Pairwise (· ≤ ·) → (∀ y ∈ xs.take (xs.countP (· < x)), y < x) ∧ (∀ y ∈ xs.drop (xs.countP (· < x)), x ≤ y)
  | [], _ => ⟨fun y h => by simp at h, fun y h => by simp at h⟩
  | y :: ys, h => by
    obtain ⟨h1, h2⟩ := List.pairwise_cons.1 h
    by_cases hy : y < x
    · obtain ⟨i1, i2⟩ := parted x h2
      rw [List.countP_cons_of_pos (by simpa using hy), List.take_succ_cons, List.drop_succ_cons]
      refine ⟨fun z hz => ?_, i2⟩
      rcases List.mem_cons.1 hz with rfl | hz
      · exact hy
      · exact i1 z hz
    · have h0 : (y :: ys).countP (· < x) = 0 := countP_zero fun z hz => by
        rcases List.mem_cons.1 hz with rfl | hz
        · omega
        · have := h1 z hz; omega
      rw [h0]
      refine ⟨fun z hz => by simp at hz, fun z hz => ?_⟩
      rcases List.mem_cons.1 hz with rfl | hz
      · omega
      · have := h1 z hz; omega
theorem ins_asc {xs : List Int} (h : xs.Pairwise (· ≤ ·)) (x : Int) : (ins xs x).Pairwise (· ≤ ·) := by
  obtain ⟨h1, h2⟩ := parted x h
  unfold ins insAt
  refine List.pairwise_append.2 ⟨h.sublist (List.take_sublist _ _), List.pairwise_cons.2 ⟨h2, h.sublist (List.drop_sublist _ _)⟩, fun y hy z hz => ?_⟩
  have := h1 y hy
  rcases List.mem_cons.1 hz with rfl | hz
  · omega
  · have := h2 z hz; omega
theorem ins_perm (xs : List Int) (x : Int) : (ins xs x).Perm (x :: xs) := by
  unfold ins insAt
  refine List.perm_middle.trans (List.Perm.cons x ?_)
  rw [List.take_append_drop]
/-- The pairing at block B: its waiting calls are xs, ascending, in a block of their own. -/
structure Waits (w : World) (B : Nat) (a : Option Addr) (c : Nat) (xs : List Int) : Prop where
  row : ∃ m, w.rowIs B 52 2 (fun j => if j = 0 then m else .slice a xs.length c)
  owns : Owns w a c xs
  apart : ¬ InB a B
  asc : xs.Pairwise (· ≤ ·)
set_option maxHeartbeats 400000 in
theorem wait_any (w : World) (B : Nat) (a : Option Addr) (c : Nat) (xs : List Int) (x : Int) (h : Waits w B a c xs) (hl : xs.length ≤ 1073741823) :
    Calls Try.prog 27 #[.pointer (some ⟨B, 0, none⟩), .int .i64 x] w fun e w' => e = .returned (.tuple #[]) ∧ ∃ a' c', Waits w' B a' c' (ins xs x) ∧ Only (fun k => k = B ∨ InB a k) w w' ∧ (∀ k, InB a' k → InB a k ∨ w.heap.size ≤ k) := by
  obtain ⟨⟨m, hr⟩, ho, hap, hasc⟩ := h
  have hc1 : w.cell? ⟨B, 1, none⟩ = some (.slice a xs.length c) := hr.cell (by omega)
  have hf1 := hr.frozen 1
  have hs := search_any w a c xs x ho (by omega) hasc
  have hp : xs.countP (· < x) ≤ xs.length := List.countP_le_length
  obtain ⟨i, hi⟩ : ∃ i, i = xs.countP (· < x) := ⟨_, rfl⟩
  rw [← hi] at hs hp
  have HI : Hid (i = xs.countP (· < x)) := hi
  obtain ⟨bb, hbb⟩ : ∃ bb, bb = xs.contains x := ⟨_, rfl⟩
  rw [← hbb] at hs
  have HO : Hid (Owns w a c xs) := ho
  have HR : Hid (w.rowIs B 52 2 (fun j => if j = 0 then m else .slice a xs.length c)) := hr
  clear hi hbb ho hr
  go_enter Try.func27, Try.ntmps27
  go_wp2_with fail
  refine hs.mono ?_
  rintro e w1 ⟨rfl, q, rfl⟩
  clear hs
  go_wp2_with fail
  have hbl : ∀ k, InB a k → k < w.heap.size := by
    rintro k ⟨y, rfl, rfl⟩
    rcases HO.out with ⟨h, _⟩ | ⟨g, f, h, _, _, h3, _⟩
    · cases h
    · cases h; exact h3.lt
  have hB : B < w.heap.size := HR.out.lt
  obtain ⟨W, hW⟩ : ∃ W, W = (w.drewN q).alloc (.cells #[.int .i64 x] 3) := ⟨_, rfl⟩
  have o1 : Only (fun _ => False) w W := by rw [hW]; exact (Only.drewN _ _ q).trans (Only.alloc _ _ _) (fun _ _ h => h)
  have hv : W.rowIs w.heap.size 3 1 (fun _ => .int .i64 x) := by
    rw [hW]
    exact World.rowIs_alloc (w.drewN q) #[.int .i64 x] 3 _ (fun j hj => by
      match j, hj with
      | 0, _ => rfl)
  have hWs : W.heap.size = w.heap.size + 1 := by rw [hW]; simp
  have hin := insert_any W a c xs i x w.heap.size 1 hp (by omega) (o1.owns HO.out (fun _ _ h => h)) hv (fun h => by have := hbl _ h; omega)
  rw [← hW]
  have hrB := o1.rowIs HR.out (fun h => h)
  refine hin.mono ?_
  rintro e w2 ⟨a', c', rfl, ho2, o2, ha'⟩
  have hr2 := o2.rowIs hrB hap
  have hc2 : w2.cell? ⟨B, 1, none⟩ = some (.slice a xs.length c) := hr2.cell (by omega)
  have hf2 := hr2.frozen 1
  have HR2 : Hid (w2.rowIs B 52 2 (fun j => if j = 0 then m else .slice a xs.length c)) := hr2
  have hInB : ∀ k, InB a' k → InB a k ∨ w.heap.size ≤ k := by
    rintro k ⟨y, hy, rfl⟩
    rcases ha' with e | e
    · exact Or.inl ⟨y, by rw [← e]; exact hy, rfl⟩
    · rw [e] at hy; cases hy; exact Or.inr (by show _ ≤ W.heap.size; omega)
  have HF : Hid (Owns w2 a' c' (insAt xs i x) ∧ Only (InB a) W w2 ∧ Only (fun _ => False) w W ∧ (∀ k, InB a' k → InB a k ∨ w.heap.size ≤ k)) := ⟨ho2, o2, o1, hInB⟩
  clear hin hr2 hrB hInB ha' ho2 o2 o1 hv hc1 hf1 hbl
  clear hW hWs
  go_wp2_with fail
  go_end0
  refine ⟨rfl, a', c', ?_, ?_, HF.out.2.2.2⟩
  · have hapB : ¬ InB a' B := fun h => by
      rcases HF.out.2.2.2 B h with h | h
      · exact hap h
      · omega
    refine ⟨⟨m, ?_⟩, ?_, hapB, ins_asc hasc x⟩
    · refine (HR2.out.set 1 _).congr (fun j hj => ?_)
      rw [ins_len]
      by_cases e : j = 0
      · subst e; rfl
      · have : j = 1 := by omega
        subst this; rfl
    · have h1 := HF.out.1
      rw [HI.out] at h1
      exact (Only.setCell (fun k => k = B) w2 ⟨B, 1, none⟩ _ (fun _ => rfl)).owns h1 (fun k hk e => hapB (by rw [← e]; exact hk))
  · have o3 : Only (fun k => k = B ∨ InB a k) w W := HF.out.2.2.1.mono (fun _ h => h.elim)
    exact (o3.trans HF.out.2.1 (fun k _ h => Or.inr h)).trans (Only.setCell (fun k => k = B) w2 ⟨B, 1, none⟩ _ (fun _ => rfl)) (fun k _ h => Or.inl h)
set_option maxHeartbeats 400000 in
theorem zwait_any (w : World) (B : Nat) (a : Option Addr) (c : Nat) (xs : List Int) (x : Int) (h : Waits w B a c xs) (hl : xs.length ≤ 1073741823) :
    Calls Try.prog 9 #[.pointer (some ⟨B, 0, none⟩), .int .i64 x] w fun e w' => e = .returned (.tuple #[]) ∧ ∃ a' c', Waits w' B a' c' (ins xs x) ∧ Only (fun k => k = B ∨ InB a k) w w' ∧ (∀ k, InB a' k → InB a k ∨ w.heap.size ≤ k) := by
  have hw := wait_any w B a c xs x h hl
  clear h
  go_enter Try.func9, Try.ntmps9
  go_wp2_with (go_at_call 27; refine hw.mono ?_; rintro e w' ⟨rfl, hp⟩)
  go_end0
  exact ⟨rfl, hp⟩
set_option maxHeartbeats 400000 in
theorem zwaiting_any (w : World) (B : Nat) (a : Option Addr) (c : Nat) (xs : List Int) (h : Waits w B a c xs) :
    Calls Try.prog 10 #[.pointer (some ⟨B, 0, none⟩)] w fun e w' => e = .returned (.slice a xs.length c) ∧ w' = w := by
  obtain ⟨m, hr⟩ := h.row
  have hc1 : w.cell? ⟨B, 1, none⟩ = some (.slice a xs.length c) := hr.cell (by omega)
  clear hr h
  go_enter Try.func10, Try.ntmps10
  go_wp2
  go_ret
  exact ⟨rfl, rfl⟩
set_option maxHeartbeats 400000 in
theorem znew_any (w : World) (a : Option Addr) (c : Nat) (xs : List Int) (ho : Owns w a c xs) (hasc : xs.Pairwise (· ≤ ·)) :
    Calls Try.prog 8 #[.slice a xs.length c] w fun e w' => e = .returned (.pointer (some ⟨w.heap.size, 0, none⟩)) ∧ Waits w' w.heap.size a c xs ∧ Only (fun _ => False) w w' := by
  have HO : Hid (Owns w a c xs) := ho
  clear ho
  go_enter Try.func8, Try.ntmps8
  go_wp2
  go_ret
  refine ⟨rfl, ⟨⟨.map none, ?_⟩, (Only.alloc (fun _ => False) w _).owns HO.out (fun _ _ h => h), ?_, hasc⟩, Only.alloc _ _ _⟩
  · exact World.rowIs_alloc w #[.map none, .slice a xs.length c] 52 _ (fun j hj => by
      match j, hj with
      | 0, _ => rfl
      | 1, _ => rfl)
  · rintro ⟨y, rfl, hy⟩
    rcases HO.out with ⟨h, _⟩ | ⟨g, f, h, _, _, h3, _⟩
    · cases h
    · cases h
      have := h3.lt
      simp at hy
      omega
end Go.Proofs.Qxb6613301a
