/-
  THE MEMORY OF A LIST OF POSITIONS: 'Owns' (a slice of ints in a block of its own), 'Only' (which old blocks may have turned); slices.BinarySearch and slices.Insert by one contract each.
-/
import Derived.Test.Qxb6613301aRows
import Derived.Test.Qxb6613301aShelf
import Derived.WalkKit
import Derived.WalkSpells
import Derived.Lib.LazyBuf
import Derived.Deep.Upon
namespace Go.Proofs.Qxb6613301a
open Go.RowKit

/-- w' is w with new blocks; of the old ones only those in S may have turned. -/
structure Only (S : Nat → Prop) (w w' : World) : Prop where
  os : w'.os = w.os
  tape : w'.tape = w.tape
  output : w'.output = w.output
  size : w.heap.size ≤ w'.heap.size
  block : ∀ k, k < w.heap.size → ¬ S k → w'.heap[k]? = w.heap[k]?

theorem Only.refl (S : Nat → Prop) (w : World) : Only S w w := ⟨rfl, rfl, rfl, Nat.le_refl _, fun _ _ _ => rfl⟩
theorem Only.trans {S S' : Nat → Prop} {a b c : World} (h : Only S a b) (k : Only S' b c) (hS : ∀ i, i < a.heap.size → S' i → S i) : Only S a c :=
  ⟨k.os.trans h.os, k.tape.trans h.tape, k.output.trans h.output, Nat.le_trans h.size k.size, fun i hi hn => (k.block i (Nat.lt_of_lt_of_le hi h.size) (fun h' => hn (hS i hi h'))).trans (h.block i hi hn)⟩
theorem Only.drewN (S : Nat → Prop) (w : World) (n : Nat) : Only S w (w.drewN n) := ⟨rfl, rfl, rfl, Nat.le_refl _, fun _ _ _ => rfl⟩
theorem Only.drew (S : Nat → Prop) (w : World) : Only S w w.drew := ⟨rfl, rfl, rfl, Nat.le_refl _, fun _ _ _ => rfl⟩
theorem Only.alloc (S : Nat → Prop) (w : World) (o : Obj) : Only S w (w.alloc o) := ⟨rfl, rfl, rfl, by simp, fun k hk _ => Below.heap_alloc _ _ _ hk⟩
theorem Only.setCell (S : Nat → Prop) (w : World) (p : Addr) (v : Value) (hp : p.block < w.heap.size → S p.block) : Only S w (w.setCell p v) :=
  ⟨rfl, rfl, rfl, by simp [World.setCell], fun k hk hn => Below.heap_setCell _ _ _ _ (fun e => hn (by rw [e]; exact hp (by rw [← e]; exact hk)))⟩
theorem Only.setCells (S : Nat → Prop) : ∀ (vs : List Value) (o : Nat) (w : World) (b : Nat), (b < w.heap.size → S b) → Only S w (w.setCells b o vs)
  | [], _, w, _, _ => Only.refl S w
  | v :: r, o, w, b, hb => (Only.setCell S w ⟨b, o, none⟩ v hb).trans (Only.setCells S r (o + 1) _ b (fun h => hb (by simpa [World.setCell] using h))) (fun _ _ h => h)
theorem Only.below {S : Nat → Prop} {w a b : World} {B : Nat} (h : Below B w a) (k : Only S a b) (hS : ∀ i, S i → B ≤ i) (hB : B ≤ a.heap.size) : Below B w b :=
  h.trans ⟨k.os, k.tape, k.output, k.size, fun i hi => k.block i (by omega) (fun h' => by have := hS i h'; omega)⟩
theorem Only.rowIs {S : Nat → Prop} {a b : World} (h : Only S a b) {g : Nat} {t : TypeId} {n : Nat} {f : Nat → Value} (hr : a.rowIs g t n f) (hg : ¬ S g) : b.rowIs g t n f :=
  hr.of_block (h.block g hr.lt hg)

theorem shape_of_row {w : World} {b : Nat} {t : TypeId} {n : Nat} {f : Nat → Value} (h : w.rowIs b t n f) : w.shape? b = some (t, n) := by
  obtain ⟨c, hc, hs, _⟩ := h
  unfold World.shape?
  rw [hc, ← hs]

/-- The slice (a, len xs, c) is nil and empty; or it begins a block of its own, of c cells, of which the first hold xs. -/
def Owns (w : World) (a : Option Addr) (c : Nat) (xs : List Int) : Prop :=
  (a = none ∧ c = 0 ∧ xs = []) ∨ ∃ g f, a = some ⟨g, 0, none⟩ ∧ xs.length ≤ c ∧ c ≤ maxLen ∧ w.rowIs g 3 c f ∧ ∀ j, j < xs.length → f j = .int .i64 (xs.getD j 0)
/-- The block of an address. -/
def InB (a : Option Addr) (k : Nat) : Prop := ∃ y, a = some y ∧ y.block = k
theorem Only.owns {S : Nat → Prop} {w w' : World} (h : Only S w w') {a : Option Addr} {c : Nat} {xs : List Int} (ho : Owns w a c xs) (hS : ∀ k, InB a k → ¬ S k) : Owns w' a c xs := by
  rcases ho with h0 | ⟨g, f, rfl, h1, h2, h3, h4⟩
  · exact Or.inl h0
  · exact Or.inr ⟨g, f, rfl, h1, h2, h.rowIs h3 (hS g ⟨_, rfl, rfl⟩), h4⟩

def vals (xs : List Int) : List Value := xs.map (Value.int .i64)
theorem vals_at (xs : List Int) (j : Nat) (h : j < xs.length) : (vals xs)[j]? = some (.int .i64 (xs.getD j 0)) := by
  unfold vals
  rw [List.getElem?_map, List.getElem?_eq_getElem h, List.getD, List.getElem?_eq_getElem h]
  rfl
theorem vals_one (xs : List Int) : ∀ v ∈ vals xs, v.oneCell' = true := by
  intro v hv
  obtain ⟨z, _, rfl⟩ := List.mem_map.1 hv
  rfl
theorem vals_len (xs : List Int) : (vals xs).length = xs.length := by simp [vals]
/-- Insertion at a place. -/
def insAt (xs : List Int) (i : Nat) (x : Int) : List Int := xs.take i ++ x :: xs.drop i
theorem insAt_len (xs : List Int) (i : Nat) (x : Int) (hi : i ≤ xs.length) : (insAt xs i x).length = xs.length + 1 := by
  simp [insAt]; omega
theorem insAt_at (xs : List Int) (i : Nat) (x : Int) (hi : i ≤ xs.length) (j : Nat) : (insAt xs i x).getD j 0 = if j < i then xs.getD j 0 else if j = i then x else xs.getD (j - 1) 0 := by
  unfold insAt
  by_cases h1 : j < i
  · rw [if_pos h1, List.getD, List.getD, List.getElem?_append_left (by simp; omega), List.getElem?_take, if_pos h1]
  · rw [if_neg h1]
    by_cases h2 : j = i
    · rw [if_pos h2, List.getD, List.getElem?_append_right (by simp; omega), List.length_take, show j - min i xs.length = 0 by omega]
      rfl
    · rw [if_neg h2, List.getD, List.getD, List.getElem?_append_right (by simp; omega), List.length_take, show j - min i xs.length = (j - 1 - i) + 1 by omega, List.getElem?_cons_succ, List.getElem?_drop, show i + (j - 1 - i) = j - 1 by omega]

set_option maxHeartbeats 400000 in
theorem search_any (w : World) (a : Option Addr) (c : Nat) (xs : List Int) (x : Int) (ho : Owns w a c xs) (hl : xs.length ≤ 1073741824) (hs : xs.Pairwise (· ≤ ·)) :
    Calls Try.prog 36 #[.slice a xs.length c, .int .i64 x] w fun e w' => e = .returned (.tuple #[.int .i64 (xs.countP (· < x) : Nat), .bool (xs.contains x)]) ∧ ∃ q, w' = w.drewN q := by
  rcases ho with ⟨rfl, rfl, rfl⟩ | ⟨g, f, rfl, h1, h2, h3, h4⟩
  · refine (Try.slices_BinarySearch_int_empty none 0 x w).mono ?_
    rintro e w' ⟨rfl, rfl⟩
    exact ⟨rfl, 0, rfl⟩
  · have h := Try.slices_BinarySearch_int g 0 xs.length c xs x w (Nat.le_refl _) (by omega) (fun j hj => by rw [Nat.zero_add, h3.cell (by omega), h4 j hj]) (by rw [List.take_length]; exact hs)
    rw [List.take_length] at h
    exact h
/-- A row whose cells are those of 'insAt': the value at each place. -/
theorem owns_ins {W : World} {g c : Nat} {f : Nat → Value} {xs : List Int} {i : Nat} {x : Int} (hi : i ≤ xs.length) (hc : xs.length + 1 ≤ c) (hm : c ≤ maxLen) (hr : W.rowIs g 3 c f)
    (h1 : ∀ j, j < i → f j = .int .i64 (xs.getD j 0)) (h2 : f i = .int .i64 x) (h3 : ∀ j, i < j → j < xs.length + 1 → f j = .int .i64 (xs.getD (j - 1) 0)) : Owns W (some ⟨g, 0, none⟩) c (insAt xs i x) := by
  refine Or.inr ⟨g, f, rfl, by rw [insAt_len _ _ _ hi]; exact hc, hm, hr, fun j hj => ?_⟩
  rw [insAt_len _ _ _ hi] at hj
  rw [insAt_at xs i x hi j]
  by_cases e1 : j < i
  · rw [if_pos e1, h1 j e1]
  · rw [if_neg e1]
    by_cases e2 : j = i
    · rw [if_pos e2, e2, h2]
    · rw [if_neg e2, h3 j (by omega) hj]
theorem vals_getD (xs : List Int) (j : Nat) (h : j < xs.length) : (vals xs)[j]?.getD default = .int .i64 (xs.getD j 0) := by rw [vals_at xs j h]; rfl
theorem drop_getD (xs : List Int) (i j : Nat) (h : i + j < xs.length) : ((vals xs).drop i)[j]?.getD default = .int .i64 (xs.getD (i + j) 0) := by rw [List.getElem?_drop, vals_at xs (i + j) h]; rfl
set_option maxHeartbeats 400000 in
theorem insert_any (w : World) (a : Option Addr) (c : Nat) (xs : List Int) (i : Nat) (x : Int) (vb vc : Nat) (hi : i ≤ xs.length) (hl : xs.length ≤ 1073741824) (ho : Owns w a c xs)
    (hv : w.rowIs vb 3 1 (fun _ => .int .i64 x)) (hne : ¬ InB a vb) :
    Calls Try.prog 37 #[.slice a xs.length c, .int .i64 i, .slice (some ⟨vb, 0, none⟩) 1 vc] w fun e w' =>
      ∃ a' c', e = .returned (.slice a' (xs.length + 1) c') ∧ Owns w' a' c' (insAt xs i x) ∧ Only (InB a) w w' ∧ (a' = a ∨ a' = some ⟨w.heap.size, 0, none⟩) := by
  have hvs : ∀ j v, [Value.int .i64 x][j]? = some v → w.cell? ⟨vb, 0 + j, none⟩ = some v := by
    intro j v hj
    match j, hj with
    | 0, hj => simp at hj; subst hj; exact hv.cell (by omega)
  have h1v : ∀ v ∈ [Value.int .i64 x], v.oneCell' = true := by intro v hv; simp at hv; subst hv; rfl
  have hge : ∀ cc, xs.length + 1 ≤ grownCap w (xs.length + 1) cc 3 := fun cc => grownCap_ge w (xs.length + 1) cc 3
  have hle : ∀ cc, grownCap w (xs.length + 1) cc 3 ≤ maxLen := fun cc => grownCap_le_maxLen w (xs.length + 1) cc 3 (by unfold maxLen; omega)
  have atEnd : ∀ cc, i = xs.length → Owns (w.drew.alloc (.cells ((vals xs ++ [Value.int .i64 x]).toArray ++ Builtin.zeroCells (Value.int .i64 0).cells (grownCap w (xs.length + 1) cc 3 - (xs.length + 1))) 3)) (some ⟨w.heap.size, 0, none⟩) (grownCap w (xs.length + 1) cc 3) (insAt xs i x) := by
    intro cc hin
    obtain ⟨C, hC⟩ : ∃ C, C = (vals xs ++ [Value.int .i64 x]).toArray ++ Builtin.zeroCells (Value.int .i64 0).cells (grownCap w (xs.length + 1) cc 3 - (xs.length + 1)) := ⟨_, rfl⟩
    have hge' := hge cc
    have hCs : C.size = grownCap w (xs.length + 1) cc 3 := by rw [hC]; simp [Builtin.zeroCells, Value.cells, vals_len]; omega
    have hr := World.rowIs_alloc w.drew C 3 (fun j => C[j]?.getD default) (fun j hj => by rw [Array.getElem?_eq_getElem hj]; rfl)
    rw [hCs] at hr
    rw [← hC]
    have hat : ∀ j, j < xs.length + 1 → C[j]? = (vals xs ++ [Value.int .i64 x])[j]? := by
      intro j hj
      rw [hC, Array.getElem?_append_left (by simp [vals_len]; omega), List.getElem?_toArray]
    refine owns_ins hi hge' (hle cc) hr ?_ ?_ ?_
    · intro j hj
      show C[j]?.getD default = _
      rw [hat j (by omega), List.getElem?_append_left (by rw [vals_len]; omega), vals_getD xs j (by omega)]
    · show C[i]?.getD default = _
      rw [hat i (by omega), List.getElem?_append_right (by rw [vals_len]; omega), vals_len, hin, Nat.sub_self]
      rfl
    · intro j hj hj2
      omega
  rcases ho with ⟨rfl, rfl, rfl⟩ | ⟨g, f, rfl, h1, h2, h3, h4⟩
  · have hi0 : i = 0 := by simpa using hi
    subst hi0
    refine (Try.slices_Insert_int_end_grow none 0 0 vb 0 1 vc [] [Value.int .i64 x] w (by omega) (by omega) (by omega) (by omega) rfl rfl (fun _ => rfl) (fun _ h => by cases h) hvs h1v).mono ?_
    rintro e w' ⟨rfl, rfl⟩
    exact ⟨_, _, rfl, atEnd 0 rfl, (Only.drew _ _).trans (Only.alloc _ _ _) (fun _ _ h => h), Or.inr rfl⟩
  · have hcs : ∀ j v, (vals xs)[j]? = some v → w.cell? ⟨g, 0 + j, none⟩ = some v := by
      intro j v hj
      have hjl : j < xs.length := by
        have := (List.getElem?_eq_some_iff.1 hj).1
        rwa [vals_len] at this
      rw [Nat.zero_add, h3.cell (by omega), h4 j hjl, ← vals_at xs j hjl, hj]
    have hvb : vb ≠ g := fun e => hne ⟨_, rfl, e.symm⟩
    unfold maxLen at h2
    by_cases hin : i = xs.length
    · by_cases hroom : xs.length + 1 ≤ c
      · have h := Try.slices_Insert_int_end_room g 0 xs.length c vb 0 1 vc [Value.int .i64 x] w (by omega) hroom (by omega) rfl (fun j hj => by rw [Nat.zero_add, h3.cell (by omega)]; rfl) (fun j hj => h3.frozen _) hvs h1v
        rw [hin]
        refine h.mono ?_
        rintro e w' ⟨rfl, rfl⟩
        refine ⟨_, _, rfl, ?_, Only.setCells _ _ _ _ _ (fun _ => ⟨_, rfl, rfl⟩), Or.inl rfl⟩
        refine owns_ins (Nat.le_refl _) hroom (by unfold maxLen; omega) (Go.rowIs_setCells [Value.int .i64 x] (0 + xs.length) w f h3) ?_ ?_ ?_
        · intro j hj
          rw [if_neg (by omega), h4 j hj]
        · rw [if_pos (by simp), show xs.length - (0 + xs.length) = 0 by omega]
          rfl
        · intro j hj hj2
          omega
      · have h := Try.slices_Insert_int_end_grow (some ⟨g, 0, none⟩) xs.length c vb 0 1 vc (vals xs) [Value.int .i64 x] w (by omega) h1 (by omega) (by omega) (vals_len xs) rfl (fun h => by cases h) (fun a ha j v hj => by
          cases ha
          have ha : (⟨g, 0, none⟩ : Addr).add j = ⟨g, 0 + j, none⟩ := by unfold Addr.add; split <;> simp_all
          rw [ha]; exact hcs j v hj) hvs h1v
        have hE := atEnd c hin
        rw [hin] at hE ⊢
        refine h.mono ?_
        rintro e w' ⟨rfl, rfl⟩
        exact ⟨_, _, rfl, hE, (Only.drew _ _).trans (Only.alloc _ _ _) (fun _ _ h => h), Or.inr rfl⟩
    · by_cases hroom : xs.length + 1 ≤ c
      · have h := Try.slices_Insert_int_shift g 0 xs.length c i vb 0 1 vc (vals xs) [Value.int .i64 x] w (by omega) (by omega) hroom (by omega) hvb (vals_len xs) rfl hcs
          (fun j hj => by rw [Nat.zero_add, h3.cell (by omega)]; rfl) (fun j hj => h3.frozen _) hvs (vals_one xs) h1v 3 3 1 c (shape_of_row hv) (shape_of_row h3) (by omega) (hv.frozen _) (hv.frozen _)
        refine h.mono ?_
        rintro e w' ⟨rfl, rfl⟩
        refine ⟨_, _, rfl, ?_, ((Only.drew _ _).trans (Only.setCells _ _ _ _ _ (fun _ => ⟨_, rfl, rfl⟩)) (fun _ _ h => h)).trans (Only.setCells _ _ _ _ _ (fun _ => ⟨_, rfl, rfl⟩)) (fun _ _ h => h), Or.inl rfl⟩
        have hdl : ((vals xs).drop i).length = xs.length - i := by rw [List.length_drop, vals_len]
        refine owns_ins hi hroom (by unfold maxLen; omega) (Go.rowIs_setCells [Value.int .i64 x] (0 + i) _ _ (Go.rowIs_setCells ((vals xs).drop i) (0 + (i + 1)) w.drew f h3)) ?_ ?_ ?_
        · intro j hj
          rw [if_neg (by omega), if_neg (by omega), h4 j (by omega)]
        · rw [if_pos (by simp), show i - (0 + i) = 0 by omega]
          rfl
        · intro j hj hj2
          rw [if_neg (by simp; omega), if_pos (by rw [hdl]; omega), drop_getD xs i _ (by omega), show i + (j - (0 + (i + 1))) = j - 1 by omega]
      · have h := Try.slices_Insert_int_grow g 0 xs.length c i vb 0 1 vc (vals xs) [Value.int .i64 x] w (by omega) (by omega) h1 (by omega) (by omega) (vals_len xs) rfl hcs hvs (vals_one xs) h1v
        refine h.mono ?_
        rintro e w' ⟨rfl, rfl⟩
        have hdl : ((vals xs).drop i).length = xs.length - i := by rw [List.length_drop, vals_len]
        have hge' := hge c
        obtain ⟨C, hC⟩ : ∃ C, C = ((vals xs).take i).toArray ++ Builtin.zeroCells (Value.int .i64 0).cells (xs.length + 1 - i) ++ Builtin.zeroCells (Value.int .i64 0).cells (grownCap w (xs.length + 1) c 3 - (xs.length + 1)) := ⟨_, rfl⟩
        have hCs : C.size = grownCap w (xs.length + 1) c 3 := by rw [hC]; simp [Builtin.zeroCells, Value.cells, vals_len]; omega
        have hr := World.rowIs_alloc w C 3 (fun j => C[j]?.getD default) (fun j hj => by rw [Array.getElem?_eq_getElem hj]; rfl)
        rw [hCs] at hr
        rw [← hC]
        refine ⟨_, _, rfl, ?_, ?_, Or.inr rfl⟩
        · refine owns_ins hi hge' (hle c) (Go.rowIs_setCells ((vals xs).drop i) (i + 1) _ _ (Go.rowIs_setCells [Value.int .i64 x] i _ _ hr)) ?_ ?_ ?_
          · intro j hj
            rw [if_neg (by omega), if_neg (by omega)]
            show C[j]?.getD default = _
            rw [hC, Array.getElem?_append_left (by simp [vals_len]; omega), Array.getElem?_append_left (by simp [vals_len]; omega), List.getElem?_toArray, List.getElem?_take, if_pos hj, vals_getD xs j (by omega)]
          · rw [if_neg (by omega), if_pos (by simp), Nat.sub_self]
            rfl
          · intro j hj hj2
            rw [if_pos (by rw [hdl]; omega), drop_getD xs i _ (by omega), show i + (j - (i + 1)) = j - 1 by omega]
        · have o1 : Only (InB (some ⟨g, 0, none⟩)) w (w.alloc (.cells C 3)) := Only.alloc _ _ _
          have o2 : Only (fun k => k = w.heap.size) (w.alloc (.cells C 3)) (((w.alloc (.cells C 3)).drew.setCells w.heap.size i [Value.int .i64 x]).drew.setCells w.heap.size (i + 1) ((vals xs).drop i)) :=
            (((Only.drew (fun k => k = w.heap.size) _).trans (Only.setCells (fun k => k = w.heap.size) _ _ _ _ (fun _ => rfl)) (fun _ _ h => h)).trans (Only.drew (fun k => k = w.heap.size) _) (fun _ _ h => h)).trans (Only.setCells (fun k => k = w.heap.size) _ _ _ _ (fun _ => rfl)) (fun _ _ h => h)
          exact o1.trans o2 (fun k hk e => by omega)
end Go.Proofs.Qxb6613301a
