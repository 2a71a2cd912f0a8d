/-
  zzCloneInts, zzSameInts, zzMergeTwo: the walks; the merge's plain invariant.
-/
import Derived.Test.Qxb6613301aScript
import Derived.Lib.JoinLaws
namespace Go.Proofs.Qxb6613301a
open Go.RowKit
theorem Try.info3 : (Try.prog.info? 3).map (fun i => (i.zero, i.size, i.bytes)) = some (some (.int .i64 0), 1, 8) := by kernel_rfl
/-- The slice (a, m, c) owns O, of m elements. -/
def Own2 (w : World) (a : Option Addr) (c : Nat) (O : List Int) (m : Nat) : Prop := Owns w a c O ∧ O.length = m
set_option maxHeartbeats 400000 in
/-- 'out = append(out, v)' WITHIN THE CAPACITY, v just laid in a block of its own. -/
theorem wpList_push (w0 : World) {ops : Array Oper} {rest : List Oper} {o : Oper} {act : Act} {Q : Exit → Act → World → Prop}
    (hg : o.guard = none) (d x : Operand) (hop : o.op = Op.call { callee := Callee.builtin Builtin.append, args := #[d, x], argTypes := #[22, 22] })
    (a : Option Addr) (c m : Nat) (O : List Int) (v : Int) (hd : act.eval d = .slice a m c) (hx : act.eval x = .slice (some ⟨w0.heap.size, 0, none⟩) 1 1)
    (ho : Own2 w0 a c O m) (hroom : m + 1 ≤ c)
    (hK : ∀ w', Own2 w' a c (O ++ [v]) (m + 1) → Only (InB a) w0 w' → wpList Try.prog ops Q rest (act.put o.dst (.slice a (m + 1) c)) w') :
    wpList Try.prog ops Q (o :: rest) act (w0.alloc (.cells #[.int .i64 v] 3)) := by
  obtain ⟨ho, rfl⟩ := ho
  rcases ho with ⟨rfl, rfl, _⟩ | ⟨g, f, rfl, h1, h2, h3, h4⟩
  · omega
  · have hr := h3.alloc (.cells #[.int .i64 v] 3)
    have hv : (w0.alloc (.cells #[.int .i64 v] 3)).cell? ⟨w0.heap.size, 0, none⟩ = some (.int .i64 v) := by simp
    have hsrc : Src Try.prog 1 22 (.slice (some ⟨w0.heap.size, 0, none⟩) 1 1) 1 [.int .i64 v] (w0.alloc (.cells #[.int .i64 v] 3)) :=
      Src.ofSlice _ Try.underlying22 ⟨w0.heap.size, 0, none⟩ 1 1 [.int .i64 v] (by simp) (fun j u hj => by
        match j, hj with
        | 0, hj => simp at hj; subst hj; exact hv) (by intro u hu; simp at hu; subst hu; rfl)
    refine Go.wpList_append_room1 _ hg d x 22 22 hop 3 _ _ Try.underlying22 Try.info3 g 0 O.length c hd _ hx 1 [.int .i64 v] hsrc hroom ?_ (fun j _ => hr.frozen _) ?_
    · intro j hj
      simp at hj
      subst hj
      rw [hr.cell (by omega)]
      rfl
    · refine hK _ ⟨?_, by simp⟩ ((Only.alloc _ _ _).trans (Only.setCells (InB (some ⟨g, 0, none⟩)) _ _ _ _ (fun _ => ⟨_, rfl, rfl⟩)) (fun _ _ h => h))
      refine Or.inr ⟨g, _, rfl, by simp; omega, h2, Go.rowIs_setCells [.int .i64 v] (0 + O.length) _ f hr, fun j hj => ?_⟩
      simp at hj
      by_cases e : j = O.length
      · subst e
        rw [if_pos (by simp), show O.length - (0 + O.length) = 0 by omega]
        simp
      · rw [if_neg (by simp; omega), h4 j (by omega), List.getD, List.getD, List.getElem?_append_left (by omega)]
theorem mk22 (w : World) (n : Nat) (hN : n ≤ 4194304) :
    (Instr.makeSlice 22 (.int .i64 (n : Int)) (.int .i64 (n : Int))).run Try.prog w = .ok (.slice (some ⟨w.heap.size, 0, none⟩) n n) (w.alloc (.cells (madeCells #[.int .i64 0] n) 3)) := by
  obtain ⟨i, hi, hz0, hz1, hz2⟩ := info_parts Try.info3
  have h1 : ((i.bytes : Int)) * (n : Int) ≤ 281474976710656 := by rw [hz2]; omega
  rw [run_make w 22 3 i _ Try.underlying22 hi hz0 .i64 .i64 n n (by omega) (by omega) h1 (by omega), hz1]
  simp [Value.cells]
theorem eql_nil (w : World) (a : Option Addr) (n c : Nat) : (binOp .eql 22 (.slice a n c) (.slice none 0 0)).run Try.prog w = .ok (.bool a.isNone) w :=
  Go.run_eql_slice_nil w 22 3 a n c Try.underlying22
set_option maxHeartbeats 400000 in
theorem clone_nil (w : World) (n c : Nat) :
    Calls Try.prog 14 #[.slice none n c] w fun e w' => e = .returned (.slice none 0 0) ∧ w' = w := by
  have hq := fun w => eql_nil w none n c
  go_enter Try.func14, Try.ntmps14
  go_wp2
  go_ret
  exact ⟨rfl, rfl⟩
set_option maxHeartbeats 400000 in
theorem clone_some (w : World) (x : Addr) (n c : Nat) (L : List Int) (hn : L.length = n) (hl : n ≤ 1048576) (h : Rd w (some x) L) :
    Calls Try.prog 14 #[.slice (some x) n c] w fun e w' => e = .returned (.slice (some ⟨w.heap.size, 0, none⟩) n n) ∧ Owns w' (some ⟨w.heap.size, 0, none⟩) n L ∧ Only (fun _ => False) w w' := by
  have hq := fun w => eql_nil w (some x) n c
  have hmk := fun w => mk22 w n (by omega)
  have HR : Hid (Rd w (some x) L) := h
  have HN : Hid (L.length = n) := hn
  clear h hn
  go_enter Try.func14, Try.ntmps14
  go_wp2
  go_loopw [4] (fun i wr => ∃ (k : Nat) (f : Nat → Value), k ≤ n ∧ i = .int .i64 k ∧ wr.rowIs w.heap.size 3 n f ∧ (∀ j, j < k → f j = .int .i64 (L.getD j 0)) ∧ Only (fun _ => False) w wr) (fun i _ => n - (intOf i).toNat)
  case atStart => exact ⟨0, _, Nat.zero_le _, rfl, World.rowIs_made w (.int .i64 0) n 3, fun j h => by omega, Only.alloc _ _ _⟩
  case round =>
    obtain ⟨k, f, hk, rfl, hr, hf, ho⟩ := hrel
    have HRow : Hid (wr.rowIs w.heap.size 3 n f) := hr
    have HF : Hid (∀ j, j < k → f j = .int .i64 (L.getD j 0)) := hf
    have HO : Hid (Only (fun _ => False) w wr) := ho
    clear hr hf ho
    by_cases hlt : k < n
    · have hll : k < L.length := by rw [HN.out]; exact hlt
      obtain ⟨b, o, hx, hcell⟩ : ∃ b o, some x = some ⟨b, o, none⟩ ∧ ∀ j, j < L.length → w.cell? ⟨b, o + j, none⟩ = some (.int .i64 (L.getD j 0)) := by
        rcases HR.out with h | h
        · rw [h] at hll; simp at hll
        · exact h
      cases hx
      have hc0 := hcell k hll
      have hbw := World.block_lt_of_cell? _ _ hc0
      have hc : wr.cell? ⟨b, o + k, none⟩ = some (.int .i64 (L.getD k 0)) := by
        rw [World.cell?_of_block (w := w) (HO.out.block b hbw (fun h => h))]; exact hc0
      have hcell2 : wr.cell? ⟨w.heap.size, k, none⟩ = some (f k) := HRow.out.cell hlt
      have hfr := HRow.out.frozen k
      obtain ⟨z, hz⟩ : ∃ z, z = L.getD k 0 := ⟨_, rfl⟩
      have HZ : Hid (z = L.getD k 0) := hz
      obtain ⟨u, hu⟩ : ∃ u, u = f k := ⟨_, rfl⟩
      rw [← hz] at hc
      rw [← hu] at hcell2
      clear hz hu hcell hll hc0 hbw
      go_wp2
      go_roundw
      case rel =>
        refine ⟨k + 1, _, by omega, by go_num, HRow.out.set k _, fun j hj => ?_, HO.out.trans (Only.setCell (fun j => j = w.heap.size) wr ⟨w.heap.size, k, none⟩ _ (fun _ => rfl)) (fun j hj e => by omega)⟩
        by_cases e : j = k
        · subst e; rw [if_pos rfl, HZ.out]
        · rw [if_neg e]; exact HF.out j (by omega)
      case measure => simp [intOf]; omega
    · go_wp2
      go_ret
      refine ⟨rfl, Or.inr ⟨_, f, rfl, by rw [HN.out]; exact Nat.le_refl _, by unfold maxLen; omega, HRow.out, fun j hj => HF.out j (by rw [HN.out] at hj; omega)⟩, HO.out⟩
theorem clone_any (w : World) (a : Option Addr) (n c : Nat) (L : List Int) (hn : L.length = n) (hl : n ≤ 1048576) (h : Rd w a L) :
    Calls Try.prog 14 #[.slice a n c] w fun e w' => ∃ a' c', e = .returned (.slice a' n c') ∧ Owns w' a' c' L ∧ Only (fun _ => False) w w' ∧ (∀ k, InB a' k → w.heap.size ≤ k) := by
  cases a with
  | none =>
    have hL : L = [] := by
      rcases h with h | ⟨_, _, h, _⟩
      · exact h
      · cases h
    refine (clone_nil w n c).mono ?_
    rintro e w' ⟨rfl, rfl⟩
    subst hL
    subst hn
    exact ⟨none, 0, rfl, Or.inl ⟨rfl, rfl, rfl⟩, Only.refl _ _, fun k ⟨y, hy, _⟩ => by cases hy⟩
  | some x =>
    refine (clone_some w x n c L hn hl h).mono ?_
    rintro e w' ⟨rfl, ho, h3⟩
    exact ⟨_, _, rfl, ho, h3, fun k ⟨y, hy, hk⟩ => by cases hy; rw [← hk]; exact Nat.le_refl _⟩
set_option maxHeartbeats 400000 in
theorem same_any (w : World) (a1 a2 : Option Addr) (n c1 c2 : Nat) (L : List Int) (hn : L.length = n) (hl : n ≤ 1073741824) (h1 : Rd w a1 L) (h2 : Rd w a2 L) :
    Calls Try.prog 16 #[.slice a1 n c1, .slice a2 n c2] w fun e w' => e = .returned (.bool true) ∧ ∃ q, w' = w.drewN q := by
  have HR1 : Hid (Rd w a1 L) := h1
  have HR2 : Hid (Rd w a2 L) := h2
  have HN : Hid (L.length = n) := hn
  clear h1 h2 hn
  go_enter Try.func16, Try.ntmps16
  go_wp2
  go_loopw [5] (fun i wr => ∃ k q : Nat, k ≤ n ∧ i = .int .i64 k ∧ wr = w.drewN q) (fun i _ => n - (intOf i).toNat)
  case atStart => exact ⟨0, 0, Nat.zero_le _, rfl, rfl⟩
  case round =>
    obtain ⟨k, q, hk, rfl, rfl⟩ := hrel
    by_cases hlt : k < n
    · have hll : k < L.length := by rw [HN.out]; exact hlt
      obtain ⟨b, o, rfl, hcell⟩ : ∃ b o, a1 = some ⟨b, o, none⟩ ∧ ∀ j, j < L.length → w.cell? ⟨b, o + j, none⟩ = some (.int .i64 (L.getD j 0)) := by
        rcases HR1.out with h | h
        · rw [h] at hll; simp at hll
        · exact h
      obtain ⟨b2, o2, rfl, hcell2⟩ : ∃ b o, a2 = some ⟨b, o, none⟩ ∧ ∀ j, j < L.length → w.cell? ⟨b, o + j, none⟩ = some (.int .i64 (L.getD j 0)) := by
        rcases HR2.out with h | h
        · rw [h] at hll; simp at hll
        · exact h
      have hc := hcell k hll
      have hc2 := hcell2 k hll
      obtain ⟨z, hz⟩ : ∃ z, z = L.getD k 0 := ⟨_, rfl⟩
      rw [← hz] at hc hc2
      clear hz hcell hcell2 hll
      go_wp2
      go_quiet (fail)
      go_wp2
      go_roundw
      case rel => exact ⟨k + 1, _, by omega, by go_num, rfl⟩
      case measure => simp [intOf]; omega
    · go_wp2
      go_ret
      exact ⟨rfl, q, rfl⟩
theorem ret_slice {a : Option Addr} {m m' c : Nat} (h : m = m') : Ending.returned (.slice a m c) = .returned (.slice a m' c) := by rw [h]
/-! ### The merge: its plain invariant. -/
structure MInv (L : List Int) (lo hi : Int) (k : Nat) (pl ph : Bool) (O : List Int) : Prop where
  perm : O.Perm ((if pl then [lo] else []) ++ ((if ph then [hi] else []) ++ L.take k))
  asc : O.Pairwise (· ≤ ·)
  upto : ∀ y ∈ O, ∀ j, k ≤ j → j < L.length → y ≤ L.getD j 0
  low : pl = false → ∀ y ∈ O, y ≤ lo
  high : ph = false → ∀ y ∈ O, y ≤ hi
  both : ph = true → pl = true
theorem snoc_asc {O : List Int} {v : Int} (h : O.Pairwise (· ≤ ·)) (hv : ∀ y ∈ O, y ≤ v) : (O ++ [v]).Pairwise (· ≤ ·) :=
  List.pairwise_append.2 ⟨h, List.pairwise_singleton _ _, fun y hy z hz => by rw [List.mem_singleton.1 hz]; exact hv y hy⟩
theorem MInv.start (L : List Int) (lo hi : Int) : MInv L lo hi 0 false false [] :=
  ⟨List.Perm.refl _, List.Pairwise.nil, fun y h => by simp at h, fun _ y h => by simp at h, fun _ y h => by simp at h, fun h => by cases h⟩
theorem MInv.lo {L : List Int} {lo hi : Int} {k : Nat} {O : List Int} (h : MInv L lo hi k false false O) (hlh : lo ≤ hi) (hj : ∀ j, k ≤ j → j < L.length → lo ≤ L.getD j 0) : MInv L lo hi k true false (O ++ [lo]) := by
  refine ⟨?_, snoc_asc h.asc (h.low rfl), fun y hy j h1 h2 => ?_, (fun h => by cases h), fun _ y hy => ?_, fun _ => rfl⟩
  · exact List.perm_append_comm.trans (List.Perm.append_left [lo] h.perm)
  · rcases List.mem_append.1 hy with hy | hy
    · exact h.upto y hy j h1 h2
    · rw [List.mem_singleton.1 hy]; exact hj j h1 h2
  · rcases List.mem_append.1 hy with hy | hy
    · exact h.high rfl y hy
    · rw [List.mem_singleton.1 hy]; exact hlh
theorem MInv.hi {L : List Int} {lo hi : Int} {k : Nat} {O : List Int} (h : MInv L lo hi k true false O) (hj : ∀ j, k ≤ j → j < L.length → hi ≤ L.getD j 0) : MInv L lo hi k true true (O ++ [hi]) := by
  refine ⟨?_, snoc_asc h.asc (h.high rfl), fun y hy j h1 h2 => ?_, (fun h => by cases h), (fun h => by cases h), fun _ => rfl⟩
  · have h1 := List.Perm.append_right [hi] h.perm
    refine h1.trans ?_
    show (([lo] ++ ([] ++ L.take k)) ++ [hi]).Perm ([lo] ++ ([hi] ++ L.take k))
    rw [List.append_assoc]
    exact List.Perm.append_left [lo] List.perm_append_comm
  · rcases List.mem_append.1 hy with hy | hy
    · exact h.upto y hy j h1 h2
    · rw [List.mem_singleton.1 hy]; exact hj j h1 h2
theorem MInv.next {L : List Int} {lo hi : Int} {k : Nat} {pl ph : Bool} {O : List Int} (h : MInv L lo hi k pl ph O) (hs : L.Pairwise (· ≤ ·)) (hk : k < L.length) (z : Int) (hz : z = L.getD k 0) (h1 : pl = false → z ≤ lo) (h2 : ph = false → z ≤ hi) : MInv L lo hi (k + 1) pl ph (O ++ [z]) := by
  have hmono : ∀ j, k + 1 ≤ j → j < L.length → z ≤ L.getD j 0 := by
    intro j hj hjl
    rw [List.pairwise_iff_getElem] at hs
    have := hs k j hk hjl (by omega)
    rw [hz, List.getD, List.getD, List.getElem?_eq_getElem hk, List.getElem?_eq_getElem hjl]
    exact this
  refine ⟨?_, snoc_asc h.asc (fun y hy => by rw [hz]; exact h.upto y hy k (Nat.le_refl _) hk), fun y hy j hj hjl => ?_, fun e y hy => ?_, fun e y hy => ?_, h.both⟩
  · have e : L.take (k + 1) = L.take k ++ [z] := by rw [List.take_succ_eq_append_getElem hk, hz, List.getD, List.getElem?_eq_getElem hk]; rfl
    rw [e]
    have := List.Perm.append_right [z] h.perm
    rw [List.append_assoc, List.append_assoc] at this
    exact this
  · rcases List.mem_append.1 hy with hy | hy
    · exact h.upto y hy j (by omega) hjl
    · rw [List.mem_singleton.1 hy]; exact hmono j hj hjl
  · rcases List.mem_append.1 hy with hy | hy
    · exact h.low e y hy
    · rw [List.mem_singleton.1 hy]; exact h1 e
  · rcases List.mem_append.1 hy with hy | hy
    · exact h.high e y hy
    · rw [List.mem_singleton.1 hy]; exact h2 e
theorem MInv.len {L : List Int} {lo hi : Int} {k : Nat} {pl ph : Bool} {O : List Int} (h : MInv L lo hi k pl ph O) (hk : k ≤ L.length) : O.length = (if pl then 1 else 0) + ((if ph then 1 else 0) + k) := by
  have := h.perm.length_eq
  rw [this]
  simp only [List.length_append, List.length_take]
  cases pl <;> cases ph <;> simp <;> omega
/-- From place k on nothing is below what is below L[k]. -/
theorem from_k {L : List Int} (hs : L.Pairwise (· ≤ ·)) {k : Nat} (hk : k < L.length) {v : Int} (hv : v ≤ L.getD k 0) : ∀ j, k ≤ j → j < L.length → v ≤ L.getD j 0 := by
  intro j hj hjl
  rcases Nat.lt_or_ge k j with h | h
  · rw [List.pairwise_iff_getElem] at hs
    have := hs k j hk hjl h
    rw [List.getD, List.getElem?_eq_getElem hk] at hv
    rw [List.getD, List.getElem?_eq_getElem hjl]
    exact Int.le_trans hv this
  · have : j = k := by omega
    subst this; exact hv
theorem mk22c (w : World) (n : Nat) (hN : n ≤ 4194304) :
    (Instr.makeSlice 22 (.int .i64 0) (.int .i64 ((n : Int) + 2))).run Try.prog w = .ok (.slice (some ⟨w.heap.size, 0, none⟩) 0 (n + 2)) (w.alloc (.cells (madeCells #[.int .i64 0] (n + 2)) 3)) := by
  obtain ⟨i, hi, hz0, hz1, hz2⟩ := info_parts Try.info3
  have h1 : ((i.bytes : Int)) * ((n : Int) + 2) ≤ 281474976710656 := by rw [hz2]; omega
  rw [run_make w 22 3 i _ Try.underlying22 hi hz0 .i64 .i64 0 ((n : Int) + 2) (by omega) (by omega) h1 (by omega), hz1]
  have e : ((n : Int) + 2).toNat = n + 2 := by omega
  rw [e]
  simp [Value.cells]
/-- What the merge leaves: the slice's memory; nothing old has turned. -/
structure MMem (w wr : World) (a : Option Addr) (c : Nat) (O : List Int) (m : Nat) : Prop where
  own : Own2 wr a c O m
  only : Only (fun _ => False) w wr
  new : ∀ j, InB a j → w.heap.size ≤ j
theorem MMem.push {w wr w' : World} {a : Option Addr} {c m : Nat} {O : List Int} {v : Int} (h : MMem w wr a c O m) (h1 : Own2 w' a c (O ++ [v]) (m + 1)) (h2 : Only (InB a) wr w') : MMem w w' a c (O ++ [v]) (m + 1) :=
  ⟨h1, h.only.trans h2 (fun j hj hb => by have := h.new j hb; omega), h.new⟩
set_option maxHeartbeats 1000000 in
theorem merge_any (w : World) (a0 : Option Addr) (n c0 : Nat) (L : List Int) (lo hi : Int) (hn : L.length = n) (hl : n ≤ 1048576) (h : Rd w a0 L) (hs : L.Pairwise (· ≤ ·)) (hlh : lo ≤ hi) :
    Calls Try.prog 15 #[.slice a0 n c0, .int .i64 lo, .int .i64 hi] w fun e w' => ∃ a O, e = .returned (.slice a (n + 2) (n + 2)) ∧ MInv L lo hi n true true O ∧ MMem w w' a (n + 2) O (n + 2) := by
  have hmk := fun w => mk22c w n (by omega)
  have HR : Hid (Rd w a0 L) := h
  have HN : Hid (L.length = n) := hn
  have HS : Hid (L.Pairwise (· ≤ ·)) := hs
  clear h hn hs
  go_enter Try.func15, Try.ntmps15
  go_wp2
  go_loopw [7, 8, 9, 10] (fun s pl ph i wr => ∃ (k m : Nat) (a : Option Addr) (O : List Int) (bl bh : Bool), k ≤ n ∧ i = .int .i64 k ∧ s = .slice a m (n + 2) ∧ pl = .bool bl ∧ ph = .bool bh ∧ MInv L lo hi k bl bh O ∧ MMem w wr a (n + 2) O m) (fun _ _ _ i _ => n - (intOf i).toNat)
  case atStart =>
    refine ⟨0, 0, _, [], false, false, Nat.zero_le _, rfl, rfl, rfl, rfl, MInv.start _ _ _, ⟨⟨Or.inr ⟨_, _, rfl, Nat.zero_le _, by unfold maxLen; omega, World.rowIs_made w (.int .i64 0) (n + 2) 3, fun j hj => by simp at hj⟩, rfl⟩, Only.alloc _ _ _, ?_⟩⟩
    rintro j ⟨y, hy, rfl⟩
    cases hy
    exact Nat.le_refl _
  case round =>
    obtain ⟨k, m, a, O, bl, bh, hk, rfl, rfl, rfl, rfl, hI, hM⟩ := hrel
    have hlen := hI.len (by rw [HN.out]; exact hk)
    have hm := hM.own.2
    rw [hlen] at hm
    have HI : Hid (MInv L lo hi k bl bh O) := hI
    have hboth := hI.both
    clear hI hlen
    by_cases hlt : k < n
    · have hll : k < L.length := by rw [HN.out]; exact hlt
      obtain ⟨b, o, rfl, hcell⟩ : ∃ b o, a0 = some ⟨b, o, none⟩ ∧ ∀ j, j < L.length → w.cell? ⟨b, o + j, none⟩ = some (.int .i64 (L.getD j 0)) := by
        rcases HR.out with h | h
        · rw [h] at hll; simp at hll
        · exact h
      have hc0 := hcell k hll
      have hbw := World.block_lt_of_cell? _ _ hc0
      have hcAll : ∀ w1 : World, Only (fun _ => False) w w1 → w1.cell? ⟨b, o + k, none⟩ = some (.int .i64 (L.getD k 0)) := fun w1 h1 => by
        rw [World.cell?_of_block (w := w) (h1.block b hbw (fun h => h))]; exact hc0
      obtain ⟨z, hz⟩ : ∃ z, z = L.getD k 0 := ⟨_, rfl⟩
      rw [← hz] at hcAll
      have HZ : Hid (z = L.getD k 0) := hz
      have HC : Hid (∀ w1 : World, Only (fun _ => False) w w1 → w1.cell? ⟨b, o + k, none⟩ = some (.int .i64 z)) := hcAll
      have hc := hcAll wr hM.only
      clear hz hcell hll hc0 hbw hcAll
      have hp := hM.own
      cases bl
      · cases bh
        · simp at hm
          subst hm
          clear hboth
          by_cases hlz : lo < z
          · have HIa := HI.out.lo hlh (from_k HS.out (by rw [HN.out]; exact hlt) (by rw [← HZ.out]; omega))
            by_cases hhz : hi < z
            · have HIb : Hid (MInv L lo hi k true true (O ++ [lo] ++ [hi])) := HIa.hi (from_k HS.out (by rw [HN.out]; exact hlt) (by rw [← HZ.out]; omega))
              clear HIa
              go_wp2_with (first
                | (at_builtin; refine wpList_push _ rfl (.tmp 31) (.tmp 33) rfl a (n + 2) _ O lo rfl rfl hp (by omega) ?_; intro w1 ho1 on1; have hM1 := hM.push ho1 on1; have hc1 := HC.out w1 hM1.only)
                | (at_builtin; refine wpList_push _ rfl (.tmp 45) (.tmp 47) rfl a (n + 2) _ (O ++ [lo]) hi rfl rfl ho1 (by omega) ?_; intro w2 ho2 on2; have hM2 := hM1.push ho2 on2; have hc2 := HC.out w2 hM2.only)
                | (at_builtin; refine wpList_push _ rfl (.tmp 49) (.tmp 54) rfl a (n + 2) _ (O ++ [lo] ++ [hi]) z rfl rfl ho2 (by omega) ?_; intro w3 ho3 on3; have hM3 := hM2.push ho3 on3))
              go_roundw
              case rel => exact ⟨k + 1, _, a, _, _, _, by omega, by go_num, rfl, rfl, rfl, HIb.out.next HS.out (by rw [HN.out]; exact hlt) z HZ.out (fun h => by cases h) (fun h => by cases h), hM3⟩
              case measure => simp [intOf]; omega
            · have HIb : Hid (MInv L lo hi k true false (O ++ [lo])) := HIa
              clear HIa
              go_wp2_with (first
                | (at_builtin; refine wpList_push _ rfl (.tmp 31) (.tmp 33) rfl a (n + 2) _ O lo rfl rfl hp (by omega) ?_; intro w1 ho1 on1; have hM1 := hM.push ho1 on1; have hc1 := HC.out w1 hM1.only)
                | (at_builtin; refine wpList_push _ rfl (.tmp 49) (.tmp 54) rfl a (n + 2) _ (O ++ [lo]) z rfl rfl ho1 (by omega) ?_; intro w3 ho3 on3; have hM3 := hM1.push ho3 on3))
              go_roundw
              case rel => exact ⟨k + 1, _, a, _, _, _, by omega, by go_num, rfl, rfl, rfl, HIb.out.next HS.out (by rw [HN.out]; exact hlt) z HZ.out (fun h => by cases h) (fun _ => by omega), hM3⟩
              case measure => simp [intOf]; omega
          · have hhz : ¬ hi < z := by omega
            go_wp2_with (at_builtin; refine wpList_push _ rfl (.tmp 49) (.tmp 54) rfl a (n + 2) _ O z rfl rfl hp (by omega) ?_; intro w3 ho3 on3; have hM3 := hM.push ho3 on3)
            go_roundw
            case rel => exact ⟨k + 1, _, a, _, _, _, by omega, by go_num, rfl, rfl, rfl, HI.out.next HS.out (by rw [HN.out]; exact hlt) z HZ.out (fun _ => by omega) (fun _ => by omega), hM3⟩
            case measure => simp [intOf]; omega
        · exact absurd (hboth rfl) (by simp)
      · cases bh
        · simp at hm
          subst hm
          clear hboth
          by_cases hhz : hi < z
          · have HIb : Hid (MInv L lo hi k true true (O ++ [hi])) := HI.out.hi (from_k HS.out (by rw [HN.out]; exact hlt) (by rw [← HZ.out]; omega))
            go_wp2_with (first
              | (at_builtin; refine wpList_push _ rfl (.tmp 45) (.tmp 47) rfl a (n + 2) _ O hi rfl rfl hp (by omega) ?_; intro w2 ho2 on2; have hM2 := hM.push ho2 on2; have hc2 := HC.out w2 hM2.only)
              | (at_builtin; refine wpList_push _ rfl (.tmp 49) (.tmp 54) rfl a (n + 2) _ (O ++ [hi]) z rfl rfl ho2 (by omega) ?_; intro w3 ho3 on3; have hM3 := hM2.push ho3 on3))
            go_roundw
            case rel => exact ⟨k + 1, _, a, _, _, _, by omega, by go_num, rfl, rfl, rfl, HIb.out.next HS.out (by rw [HN.out]; exact hlt) z HZ.out (fun h => by cases h) (fun h => by cases h), hM3⟩
            case measure => simp [intOf]; omega
          · go_wp2_with (at_builtin; refine wpList_push _ rfl (.tmp 49) (.tmp 54) rfl a (n + 2) _ O z rfl rfl hp (by omega) ?_; intro w3 ho3 on3; have hM3 := hM.push ho3 on3)
            go_roundw
            case rel => exact ⟨k + 1, _, a, _, _, _, by omega, by go_num, rfl, rfl, rfl, HI.out.next HS.out (by rw [HN.out]; exact hlt) z HZ.out (fun h => by cases h) (fun _ => by omega), hM3⟩
            case measure => simp [intOf]; omega
        · simp at hm
          subst hm
          clear hboth
          go_wp2_with (at_builtin; refine wpList_push _ rfl (.tmp 49) (.tmp 54) rfl a (n + 2) _ O z rfl rfl hp (by omega) ?_; intro w3 ho3 on3; have hM3 := hM.push ho3 on3)
          go_roundw
          case rel => exact ⟨k + 1, _, a, _, _, _, by omega, by go_num, rfl, rfl, rfl, HI.out.next HS.out (by rw [HN.out]; exact hlt) z HZ.out (fun h => by cases h) (fun h => by cases h), hM3⟩
          case measure => simp [intOf]; omega
    · obtain rfl : k = n := by omega
      have hp := hM.own
      have hend : ∀ v : Int, ∀ j, k ≤ j → j < L.length → v ≤ L.getD j 0 := fun v j h1 h2 => by rw [HN.out] at h2; omega
      cases bl
      · cases bh
        · simp at hm
          subst hm
          clear hboth
          have HIb : Hid (MInv L lo hi k true true (O ++ [lo] ++ [hi])) := (HI.out.lo hlh (hend lo)).hi (hend hi)
          clear hend
          go_wp2_with (first
            | (at_builtin; refine wpList_push _ rfl (.tmp 58) (.tmp 60) rfl a (k + 2) _ O lo rfl rfl hp (by omega) ?_; intro w1 ho1 on1; have hM1 := hM.push ho1 on1)
            | (at_builtin; refine wpList_push _ rfl (.tmp 64) (.tmp 66) rfl a (k + 2) _ (O ++ [lo]) hi rfl rfl ho1 (by omega) ?_; intro w2 ho2 on2; have hM2 := hM1.push ho2 on2))
          go_ret
          exact ⟨a, _, rfl, HIb.out, hM2⟩
        · exact absurd (hboth rfl) (by simp)
      · cases bh
        · simp at hm
          subst hm
          clear hboth
          have HIb : Hid (MInv L lo hi k true true (O ++ [hi])) := HI.out.hi (hend hi)
          clear hend
          go_wp2_with (at_builtin; refine wpList_push _ rfl (.tmp 64) (.tmp 66) rfl a (k + 2) _ O hi rfl rfl hp (by omega) ?_; intro w2 ho2 on2; have hM2 := hM.push ho2 on2)
          go_ret
          refine ⟨a, _, ret_slice (show 1 + k + 1 = k + 2 by omega), HIb.out, ?_⟩
          rw [show 1 + k + 1 = k + 2 by omega] at hM2
          exact hM2
        · simp at hm
          subst hm
          clear hboth hend
          go_wp2_with fail
          go_ret
          refine ⟨a, _, ret_slice (show 1 + (1 + k) = k + 2 by omega), HI.out, ?_⟩
          rw [show 1 + (1 + k) = k + 2 by omega] at hM
          exact hM
end Go.Proofs.Qxb6613301a
