/-
  THE PLAIN LAW of the path's percent encoding: no Go in sight: 'enc' (what net/url.PathEscape writes), its length, that it bears no slash, that it joins, that it is one to one.
-/
import Derived.KernelRfl
namespace Go.Proofs.Qxb6612895aDoor

/-- A byte that a path's segment bears as it is. -/
def kept (c : UInt8) : Bool :=
  (97 ≤ c && c ≤ 122) || (65 ≤ c && c ≤ 90) || (48 ≤ c && c ≤ 57) || c == 45 || c == 95 || c == 46 || c == 126 || c == 36 || c == 38 || c == 43 || c == 58 || c == 61 || c == 64

/-- The upper-case digit of a number below 16. -/
def hexd (n : Nat) : UInt8 := if n < 10 then UInt8.ofNat (48 + n) else UInt8.ofNat (55 + n)

def enc1 (c : UInt8) : List UInt8 := if kept c then [c] else [37, hexd (c.toNat / 16), hexd (c.toNat % 16)]
def enc : List UInt8 → List UInt8
  | [] => []
  | c :: l => enc1 c ++ enc l

theorem all_u8 (p : UInt8 → Bool) (h : (List.range 256).all (fun n => p (UInt8.ofNat n)) = true) (c : UInt8) : p c = true := by
  have h1 := List.all_eq_true.1 h c.toNat (List.mem_range.2 c.toNat_lt)
  simpa using h1

theorem enc_append (a b : List UInt8) : enc (a ++ b) = enc a ++ enc b := by
  induction a with
  | nil => rfl
  | cons c l ih => simp [enc, ih]

theorem enc1_kept {c : UInt8} (h : kept c = true) : enc1 c = [c] := by unfold enc1; rw [if_pos h]
theorem enc1_not {c : UInt8} (h : kept c = false) : enc1 c = [37, hexd (c.toNat / 16), hexd (c.toNat % 16)] := by unfold enc1; rw [h]; rfl

theorem enc1_len (c : UInt8) : 1 ≤ (enc1 c).length ∧ (enc1 c).length ≤ 3 := by
  unfold enc1; split <;> simp

theorem enc_len (l : List UInt8) : l.length ≤ (enc l).length ∧ (enc l).length ≤ 3 * l.length := by
  induction l with
  | nil => simp [enc]
  | cons c l ih =>
    have := enc1_len c
    simp only [enc, List.length_append, List.length_cons]
    omega

/-- No byte of a code is a slash. -/
theorem enc1_slash (c : UInt8) : (enc1 c).all (fun b => b != 47) = true :=
  all_u8 (fun c => (enc1 c).all (fun b => b != 47)) (by decide +kernel) c
theorem enc_slash (l : List UInt8) : ∀ b ∈ enc l, b ≠ 47 := by
  induction l with
  | nil => intro b hb; simp [enc] at hb
  | cons c l ih =>
    intro b hb
    rcases List.mem_append.1 hb with h | h
    · have := List.all_eq_true.1 (enc1_slash c) b h
      simpa using this
    · exact ih b h

theorem kept37 : kept 37 = false := by decide +kernel

/-- Two bytes whose codes begin a common list are one. -/
theorem enc1_head {a b : UInt8} {s t : List UInt8} (h : enc1 a ++ s = enc1 b ++ t) : a = b ∧ s = t := by
  cases ha : kept a <;> cases hb : kept b
  · rw [enc1_not ha, enc1_not hb] at h
    simp only [List.cons_append, List.nil_append, List.cons.injEq, true_and] at h
    obtain ⟨h1, h2, h3⟩ := h
    refine ⟨?_, h3⟩
    have key : ∀ c : UInt8, (UInt8.ofNat (((List.range 16).filter (fun i => hexd i == hexd (c.toNat / 16))).headD 0 * 16 + ((List.range 16).filter (fun i => hexd i == hexd (c.toNat % 16))).headD 0) == c) = true :=
      all_u8 (fun c => UInt8.ofNat (((List.range 16).filter (fun i => hexd i == hexd (c.toNat / 16))).headD 0 * 16 + ((List.range 16).filter (fun i => hexd i == hexd (c.toNat % 16))).headD 0) == c) (by decide +kernel)
    have ka := eq_of_beq (key a)
    have kb := eq_of_beq (key b)
    rw [h1, h2] at ka
    exact ka.symm.trans kb
  · rw [enc1_not ha, enc1_kept hb] at h
    simp only [List.cons_append, List.nil_append, List.cons.injEq] at h
    rw [← h.1, kept37] at hb
    cases hb
  · rw [enc1_kept ha, enc1_not hb] at h
    simp only [List.cons_append, List.nil_append, List.cons.injEq] at h
    rw [h.1, kept37] at ha
    cases ha
  · rw [enc1_kept ha, enc1_kept hb] at h
    simp only [List.cons_append, List.nil_append, List.cons.injEq] at h
    exact h

theorem enc1_ne (c : UInt8) : enc1 c ≠ [] := by
  intro h
  have := (enc1_len c).1
  rw [h] at this
  simp at this

theorem enc_inj : ∀ {a b : List UInt8}, enc a = enc b → a = b
  | [], [], _ => rfl
  | [], c :: l, h => by
    have h' := (List.append_eq_nil_iff.1 (show enc1 c ++ enc l = [] from h.symm)).1
    exact absurd h' (enc1_ne c)
  | c :: l, [], h => by
    have h' := (List.append_eq_nil_iff.1 (show enc1 c ++ enc l = [] from h)).1
    exact absurd h' (enc1_ne c)
  | c :: l, d :: m, h => by
    obtain ⟨h1, h2⟩ := enc1_head (show enc1 c ++ enc l = enc1 d ++ enc m from h)
    rw [h1, enc_inj h2]

/-- Two lists without a slash, each with a slash and a tail behind it: one list only if part for part. -/
theorem split_slash : ∀ {a b s t : List UInt8}, (∀ x ∈ a, x ≠ 47) → (∀ x ∈ b, x ≠ 47) → a ++ 47 :: s = b ++ 47 :: t → a = b ∧ s = t
  | [], [], _, _, _, _, h => ⟨rfl, by simpa using h⟩
  | [], c :: b, _, _, _, hb, h => by
    simp only [List.nil_append, List.cons_append, List.cons.injEq] at h
    exact absurd h.1.symm (hb c List.mem_cons_self)
  | c :: a, [], _, _, ha, _, h => by
    simp only [List.nil_append, List.cons_append, List.cons.injEq] at h
    exact absurd h.1 (ha c List.mem_cons_self)
  | c :: a, d :: b, s, t, ha, hb, h => by
    simp only [List.cons_append, List.cons.injEq] at h
    obtain ⟨h1, h2⟩ := split_slash (fun x hx => ha x (List.mem_cons_of_mem _ hx)) (fun x hx => hb x (List.mem_cons_of_mem _ hx)) h.2
    exact ⟨by rw [h.1, h1], h2⟩

/-! ### The same over byte strings -/
def encB (s : ByteArray) : ByteArray := ⟨(enc s.data.toList).toArray⟩
theorem encB_size (s : ByteArray) : (encB s).size = (enc s.data.toList).length := by simp [encB, ByteArray.size]
theorem encB_le (s : ByteArray) : s.size ≤ (encB s).size ∧ (encB s).size ≤ 3 * s.size := by
  rw [encB_size]
  have h := enc_len s.data.toList
  rw [Array.length_toList] at h
  exact h
theorem encB_append (a b : ByteArray) : encB (a ++ b) = encB a ++ encB b := by
  apply ByteArray.ext
  show (enc (a ++ b).data.toList).toArray = (encB a ++ encB b).data
  rw [ByteArray.data_append, ByteArray.data_append, Array.toList_append, enc_append, ← List.append_toArray]
  rfl
theorem encB_inj {a b : ByteArray} (h : encB a = encB b) : a = b := by
  have h1 : enc a.data.toList = enc b.data.toList := by simpa [encB] using congrArg (fun x => x.data.toList) h
  have h2 := enc_inj h1
  apply ByteArray.ext
  exact Array.toList_inj.1 h2

/-- How many of the first k codes' bytes. -/
def at_ (l : List UInt8) (k : Nat) : Nat := (enc (l.take k)).length
theorem at_zero (l : List UInt8) : at_ l 0 = 0 := by simp [at_, enc]
theorem take_snoc (l : List UInt8) (k : Nat) (h : k < l.length) : l.take (k + 1) = l.take k ++ [l[k]] := List.take_succ_eq_append_getElem h
theorem at_succ (l : List UInt8) (k : Nat) (h : k < l.length) : at_ l (k + 1) = at_ l k + (enc1 l[k]).length := by
  unfold at_
  rw [take_snoc l k h, enc_append, List.length_append]
  simp [enc]
theorem at_full (l : List UInt8) (k : Nat) (h : l.length ≤ k) : at_ l k = (enc l).length := by
  unfold at_
  rw [List.take_of_length_le h]
/-- The list parted at its k-th byte. -/
theorem enc_parted (l : List UInt8) (k : Nat) (h : k < l.length) : enc l = enc (l.take k) ++ (enc1 l[k] ++ enc (l.drop (k + 1))) := by
  have h1 : l = l.take k ++ (l[k] :: l.drop (k + 1)) := by simp
  have h2 := congrArg enc h1
  rw [enc_append] at h2
  exact h2
theorem at_lt (l : List UInt8) (k : Nat) (h : k < l.length) : at_ l k + (enc1 l[k]).length ≤ (enc l).length := by
  have := congrArg List.length (enc_parted l k h)
  simp only [List.length_append] at this
  unfold at_
  omega
theorem enc_at (l : List UInt8) (k : Nat) (h : k < l.length) (j : Nat) (hj : j < (enc1 l[k]).length) : (enc l)[at_ l k + j]? = (enc1 l[k])[j]? := by
  rw [enc_parted l k h]
  unfold at_
  rw [List.getElem?_append_right (by omega)]
  rw [show (enc (l.take k)).length + j - (enc (l.take k)).length = j by omega]
  rw [List.getElem?_append_left hj]
end Go.Proofs.Qxb6612895aDoor
