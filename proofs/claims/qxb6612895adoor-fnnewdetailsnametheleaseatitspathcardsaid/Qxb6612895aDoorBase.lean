/-
  THE TABLE net/url.table as the walk reads it, net/url.shouldEscape, and small facts on the memory that net/url.escape makes.
-/
import Derived.Test.Qxb6612895aDoorRows
import Derived.Test.Qxb6612895aDoorPlain
import Derived.WalkKit
import Derived.WalkSpells
import Derived.Lib.LaidTab
namespace Go.Proofs.Qxb6612895aDoor
open Go.RowKit
def tabl : List Int := [0, 0, 0, 0, 0, 0, 0, 0, 0, 0, 0, 0, 0, 0, 0, 0, 0, 0, 0, 0, 0, 0, 0, 0, 0, 0, 0, 0, 0, 0, 0, 0, 0, 76, 12, 0, 95, 0, 95, 12, 76, 76, 76, 95, 93, 127, 127, 65, 255, 255, 255, 255, 255, 255, 255, 255, 255, 255, 79, 93, 12, 95, 12, 64, 67, 255, 255, 255, 255, 255, 255, 127, 127, 127, 127, 127, 127, 127, 127, 127, 127, 127, 127, 127, 127, 127, 127, 127, 127, 127, 127, 12, 0, 12, 0, 127, 0, 255, 255, 255, 255, 255, 255, 127, 127, 127, 127, 127, 127, 127, 127, 127, 127, 127, 127, 127, 127, 127, 127, 127, 127, 127, 127, 0, 0, 0, 127, 0, 0, 0, 0, 0, 0, 0, 0, 0, 0, 0, 0, 0, 0, 0, 0, 0, 0, 0, 0, 0, 0, 0, 0, 0, 0, 0, 0, 0, 0, 0, 0, 0, 0, 0, 0, 0, 0, 0, 0, 0, 0, 0, 0, 0, 0, 0, 0, 0, 0, 0, 0, 0, 0, 0, 0, 0, 0, 0, 0, 0, 0, 0, 0, 0, 0, 0, 0, 0, 0, 0, 0, 0, 0, 0, 0, 0, 0, 0, 0, 0, 0, 0, 0, 0, 0, 0, 0, 0, 0, 0, 0, 0, 0, 0, 0, 0, 0, 0, 0, 0, 0, 0, 0, 0, 0, 0, 0, 0, 0, 0, 0, 0, 0, 0, 0, 0, 0, 0, 0, 0, 0, 0, 0, 0, 0, 0, 0, 0]
theorem laid_tab : (Rows.laid_net_url_table : DataW Unit) = Lib.tabData .u8 tabl := by kernel_rfl
def Tab (w : World) : Prop := ∀ i : Nat, i < 256 → w.cell? ⟨0, i, none⟩ = some (.int .u8 (tabl.getD i 0))
theorem tab_kept (c : UInt8) : (bits BinOp.and IntKind.u8 (tabl.getD c.toNat 0) 2 == 0) = !kept c := by
  have := all_u8 (fun c => (bits BinOp.and IntKind.u8 (tabl.getD c.toNat 0) 2 == 0) == !kept c) (by decide +kernel) c
  exact eq_of_beq this
set_option maxHeartbeats 400000 in
theorem should_any (c : UInt8) (w : World) (ht : Tab w) :
    Calls Tryd.prog 27 #[.int .u8 c.toNat, .int .u8 2] w fun e w' => e = .returned (.bool (!kept c)) ∧ w' = w := by
  have hlt := c.toNat_lt
  have h1 := ht c.toNat hlt
  obtain ⟨z, hz⟩ : ∃ z, z = tabl.getD c.toNat 0 := ⟨_, rfl⟩
  rw [← hz] at h1
  have HZ : Hid (z = tabl.getD c.toNat 0) := hz
  clear hz ht
  go_enter Tryd.func27, Tryd.ntmps27
  go_wp2
  go_ret
  exact ⟨congrArg (fun b => Ending.returned (.bool b)) (by rw [HZ.out]; exact tab_kept c), rfl⟩
theorem Tryd.info5 : (Tryd.prog.info? 5).map (fun i => (i.zero, i.size, i.bytes)) = some (some (.int .u8 0), 1, 1) := by kernel_rfl

theorem lgetD (s : ByteArray) (j : Nat) (hj : j < s.size) : s.data.toList.getD j 0 = s.data[j] := by
  have h : j < s.data.toList.length := by simpa using hj
  rw [List.getD, List.getElem?_eq_getElem h]; simp
theorem byte_cells (w : World) (s : ByteArray) (c : Nat) (fr : Nat × Nat) (j : Nat) (hj : j < s.size) :
    (w.alloc (.cells (bytesRow s c) 5 fr)).cell? ⟨w.heap.size, j, none⟩ = some (.int .u8 ((s.data.toList.getD j 0).toNat : Int)) := by
  rw [World.cell?_alloc_mark, bytesRow_at s c j hj, lgetD s j hj]
/-- What the walk reads: s's bytes lie from place 0 of block b on. -/
def Bytes (w : World) (b : Nat) (s : ByteArray) : Prop := ∀ j, j < s.size → w.cell? ⟨b, j, none⟩ = some (.int .u8 ((s.data.toList.getD j 0).toNat : Int))
theorem Tab.below {B : Nat} {w w' : World} (h : Tab w) (hb : Below B w w') (hp : 0 < B) : Tab w' := fun i hi => (hb.cell hp).trans (h i hi)
theorem at_kept (l : List UInt8) (k : Nat) (h : k < l.length) (hk : kept (l.getD k 0) = true) : at_ l (k + 1) = at_ l k + 1 := by
  have e : l.getD k 0 = l[k] := by rw [List.getD, List.getElem?_eq_getElem h]; rfl
  rw [e] at hk
  rw [at_succ l k h, enc1_kept hk]; rfl
theorem at_not (l : List UInt8) (k : Nat) (h : k < l.length) (hk : kept (l.getD k 0) = false) : at_ l (k + 1) = at_ l k + 3 := by
  have e : l.getD k 0 = l[k] := by rw [List.getD, List.getElem?_eq_getElem h]; rfl
  rw [e] at hk
  rw [at_succ l k h, enc1_not hk]; rfl
theorem llen (s : ByteArray) : s.data.toList.length = s.size := Array.length_toList
theorem sl41 (w : World) (b : Nat) (L : Int) (N : Nat) (h : L = (N : Int)) (hN : N ≤ 64) :
    (Instr.sliceAt 41 (.pointer (some ⟨b, 0, none⟩)) none (some (.int .i64 L)) none).run Tryd.prog w = .ok (.slice (some ⟨b, 0, none⟩) N 64) w := by
  subst h
  have ha : Tryd.prog.arrayLen 41 = 64 := by kernel_rfl
  have hu : Tryd.prog.underlying 41 = some (.array (Tryd.prog.arrayLen 41) (Tryd.prog.elem 41)) := by kernel_rfl
  have hz : ∀ w, (sizeOf (Tryd.prog.elem 41)).run Tryd.prog w = .ok 1 w := fun _ => by kernel_rfl
  rw [run_sliceAt_array_h w 41 _ hu .i64 N (by omega) (by rw [ha]; omega), hz]
  simp [Result.andThen, slicedAt, ha, Addr.add]
theorem mk39 (w : World) (L : Int) (N : Nat) (h : L = (N : Int)) (hN : N ≤ 4194304) :
    (Instr.makeSlice 39 (.int .i64 L) (.int .i64 L)).run Tryd.prog w = .ok (.slice (some ⟨w.heap.size, 0, none⟩) N N) (w.alloc (.cells (madeCells #[.int .u8 0] N) 5)) := by
  subst h
  obtain ⟨i, hi, hz0, hz1, hz2⟩ := info_parts Tryd.info5
  have h1 : ((i.bytes : Int)) * (N : Int) ≤ 281474976710656 := by rw [hz2]; omega
  rw [run_make w 39 5 i _ Tryd.underlying39 hi hz0 .i64 .i64 N N (by omega) (by omega) h1 (by omega), hz1]
  simp [Value.cells]
theorem enc_same : ∀ (l : List UInt8), (enc l).length = l.length → enc l = l
  | [], _ => rfl
  | c :: l, h => by
    have h1 := enc_len l
    have h2 := enc1_len c
    simp only [enc, List.length_append, List.length_cons] at h
    have h3 := enc_same l (by omega)
    cases hk : kept c
    · rw [enc1_not hk] at h
      simp at h
      omega
    · simp [enc, h3, enc1_kept hk]
theorem encB_same (s : ByteArray) (h : at_ s.data.toList s.size = s.size) : encB s = s := by
  have h1 := at_full s.data.toList s.size (by rw [llen]; exact Nat.le_refl _)
  apply ByteArray.ext
  show (enc s.data.toList).toArray = s.data
  rw [enc_same s.data.toList (by rw [← h1, h, llen])]
/-- The block that is being written: its first m bytes are e's, and all e.length cells may be written. -/
def Out (w : World) (tb : Nat) (e : List UInt8) (m : Nat) : Prop :=
  (∀ j, j < m → w.cell? ⟨tb, j, none⟩ = some (.int .u8 ((e.getD j 0).toNat : Int))) ∧ (∀ j, j < e.length → (w.cell? ⟨tb, j, none⟩).isSome = true ∧ w.frozen? ⟨tb, j, none⟩ = false)
theorem Out.set {w : World} {tb : Nat} {e : List UInt8} {m : Nat} (h : Out w tb e m) (hm : m < e.length) (v : Int) (hv : v = ((e.getD m 0).toNat : Int)) : Out (w.setCell ⟨tb, m, none⟩ (.int .u8 v)) tb e (m + 1) := by
  have hs := World.cell?_setCell_same' w ⟨tb, m, none⟩ (.int .u8 v) (h.2 m hm).1
  have ho : ∀ j, j ≠ m → (w.setCell ⟨tb, m, none⟩ (.int .u8 v)).cell? ⟨tb, j, none⟩ = w.cell? ⟨tb, j, none⟩ := fun j hj => World.cell?_setCell_other _ _ _ _ (by simp only [ne_eq, Addr.mk.injEq, not_and]; intro _ h; exact absurd h.symm hj)
  refine ⟨fun j hj => ?_, fun j hj => ⟨?_, ?_⟩⟩
  · by_cases e1 : j = m
    · subst e1; rw [hs, hv]
    · rw [ho j e1]; exact h.1 j (by omega)
  · by_cases e1 : j = m
    · subst e1; rw [hs]; rfl
    · rw [ho j e1]; exact (h.2 j hj).1
  · rw [World.frozen?_setCell]; exact (h.2 j hj).2
theorem start_bytes (W : World) (s : ByteArray) (c : Nat) (fr : Nat × Nat) (b : Nat) (hb : b = W.heap.size) : Bytes ((W.alloc (.cells (bytesRow s c) 5 fr)).drew) b s := by
  subst hb
  exact fun j hj => byte_cells W s c fr j hj
theorem start_out (W : World) (C : Array Value) (t : TypeId) (o : Obj) (e : List UInt8) (tb : Nat) (htb : tb = W.heap.size) (hC : e.length ≤ C.size) : Out (((W.alloc (.cells C t)).alloc o).drew) tb e 0 := by
  subst htb
  refine ⟨fun j hj => by omega, fun j hj => ⟨?_, ?_⟩⟩
  · have h1 : (((W.alloc (.cells C t)).alloc o).drew).cell? ⟨W.heap.size, j, none⟩ = C[j]? := by
      show ((W.alloc (.cells C t)).alloc o).cell? _ = _
      rw [World.cell?_alloc_lt _ _ _ (by simp), World.cell?_alloc_new]
    rw [h1, Array.getElem?_eq_getElem (by omega)]
    rfl
  · show ((W.alloc (.cells C t)).alloc o).frozen? _ = _
    rw [World.frozen?_alloc_old _ _ _ (by simp), World.frozen?_alloc_new]
theorem Bytes.set {w : World} {b : Nat} {s : ByteArray} (h : Bytes w b s) {a : Addr} (ha : a.block ≠ b) (v : Value) : Bytes (w.setCell a v) b s :=
  fun j hj => (World.cell?_setCell_other _ _ _ _ (by intro e; rw [e] at ha; exact ha rfl)).trans (h j hj)
end Go.Proofs.Qxb6612895aDoor
