/-
  DERIVED. ROWS OF BYTES IN MEMORY: what '[]byte(s)', 'make' and a store leave; 'string(b)'; strings.Repeat of one zero.
-/
import Derived.Test.Qxb6601144aRows
import Derived.Test.Qxb6601144aPlain
import Derived.Test.Qxb6601144aShelf
import Derived.WalkSpells
import Derived.WalkLawsBesides
import Derived.Deep.OwnRows
import Derived.Deep.LoopGhost
import Derived.Laws.BytesArg
import Derived.Lib.ConvBytes
namespace Go.Proofs.Qxb6601144a
open Go.RowKit Go.Joins

/-- A byte as it lies in a cell. -/
def bv (c : UInt8) : Value := .int .u8 (c.toNat : Int)

/-- Block B holds the bytes l, and spare room up to cap; none of it is frozen. -/
def Bts (w : World) (B : Nat) (l : List UInt8) (cap : Nat) : Prop :=
  ∃ (sp : List UInt8) (lo hi : Nat), w.heap[B]? = some (.cells ((l ++ sp).map bv).toArray 5 (lo, hi)) ∧ cap = (l ++ sp).length ∧ ∀ i, i < cap → ¬ (lo ≤ i ∧ i < hi)

theorem Bts.lt {w : World} {B cap : Nat} {l : List UInt8} (h : Bts w B l cap) : B < w.heap.size := by obtain ⟨_, _, _, h, _⟩ := h; exact lt_of_block h
theorem Bts.le {w : World} {B cap : Nat} {l : List UInt8} (h : Bts w B l cap) : l.length ≤ cap := by obtain ⟨_, _, _, _, h, _⟩ := h; rw [h]; simp
theorem Bts.cell {w : World} {B cap : Nat} {l : List UInt8} (h : Bts w B l cap) {i : Nat} (hi : i < l.length) : w.cell? ⟨B, i, none⟩ = some (.int .u8 ((l.getD i 0).toNat : Int)) := by
  obtain ⟨sp, lo, hh, hb, _, _⟩ := h
  rw [cell_of_block hb]
  rw [List.getElem?_toArray, List.getElem?_map, List.getElem?_append_left hi, List.getD_eq_getElem?_getD, List.getElem?_eq_getElem hi]
  rfl
theorem Bts.spare {w : World} {B cap : Nat} {l : List UInt8} (h : Bts w B l cap) {i : Nat} (hi : i < cap) : (w.cell? ⟨B, i, none⟩).isSome = true := by
  obtain ⟨sp, lo, hh, hb, hc, _⟩ := h
  rw [cell_of_block hb]
  rw [hc] at hi
  rw [List.getElem?_toArray, List.getElem?_map, List.getElem?_eq_getElem hi]
  rfl
theorem Bts.free {w : World} {B cap : Nat} {l : List UInt8} (h : Bts w B l cap) {i : Nat} (hi : i < cap) : w.frozen? ⟨B, i, none⟩ = false := by
  obtain ⟨sp, lo, hh, hb, _, hf⟩ := h
  have := hf i hi
  simp only [World.frozen?, hb]
  simp
  omega
theorem Bts.set {w : World} {B cap : Nat} {l : List UInt8} (h : Bts w B l cap) {i : Nat} (hi : i < l.length) (c : UInt8) : Bts (w.setCell ⟨B, i, none⟩ (.int .u8 (c.toNat : Int))) B (l.set i c) cap := by
  obtain ⟨sp, lo, hh, hb, hc, hf⟩ := h
  refine ⟨sp, lo, hh, ?_, by rw [hc]; simp, hf⟩
  rw [block_setCell hb, List.setIfInBounds_toArray]
  congr 3
  rw [← List.set_append_left _ _ hi, List.map_set]
  rfl
theorem Bts.later {w w' : World} {B cap n : Nat} {l : List UInt8} (h : Bts w B l cap) (hn : B < n) (hb : Below n w w') : Bts w' B l cap := by
  obtain ⟨sp, lo, hh, hbk, r⟩ := h
  exact ⟨sp, lo, hh, (hb.block B hn).trans hbk, r⟩

/-- '[]byte(s)'. -/
theorem Bts.conv (w : World) (l : List UInt8) : ∃ W1 cap, (convert 9 40 (.string (str l))).run Try.prog w = .ok (.slice (some ⟨w.heap.size, 0, none⟩) l.length cap) W1 ∧ Bts W1 w.heap.size l cap ∧ Below w.heap.size w W1 := by
  have hcv := Lib.run_convert_string_bytes (P := Try.prog) w 9 40 5 (str l) (u := .string) Try.underlying9 Try.underlying40 Try.underlying5
  have hsz : (Lib.bytesCells w 5 (str l)).size = l.length + (grownCap w l.length 0 5 - l.length) := by simp [Lib.bytesCells, str_size]
  have hge : l.length ≤ grownCap w l.length 0 5 := grownCap_ge w _ _ _
  rw [str_size] at hcv
  refine ⟨_, _, hcv, ?_, below_bytesWorld _ _ _ _ (Nat.le_refl _)⟩
  refine ⟨List.replicate (grownCap w l.length 0 5 - l.length) 0, (Lib.bytesCells w 5 (str l)).size, (Lib.bytesCells w 5 (str l)).size + 1, ?_, ?_, ?_⟩
  · rw [Lib.bytesWorld_at_new]
    congr 2
    unfold Lib.bytesCells
    rw [str_size]
    apply Array.ext'
    simp [str, bv, List.map_replicate]
  · simp; omega
  · intro i hi
    omega

/-- 'string(b)', whatever part of the row. -/
theorem str_run {w : World} {B off : Nat} {l : List UInt8} (hc : ∀ i, i < l.length → w.cell? ⟨B, off + i, none⟩ = some (.int .u8 ((l.getD i 0).toNat : Int))) (cap : Nat) :
    (convert 40 9 (.slice (some ⟨B, off, none⟩) l.length cap)).run Try.prog w = .ok (.string (str l)) w := by
  have h := run_convert_bytes_arg (P := Try.prog) w 40 5 Try.underlying40 Try.underlying5 B off l.length cap (l.map fun c => (c.toNat : Int)) (by simp) (fun i hi => by
    rw [hc i hi]
    simp [List.getD, List.getElem?_eq_getElem hi]) 9 Try.underlying9
  rw [h]
  congr 2
  unfold strOfNums str
  congr 2
  rw [List.map_map]
  have : ((fun n : Int => UInt8.ofNat n.toNat) ∘ fun c : UInt8 => (c.toNat : Int)) = id := by
    funext c
    simp
  rw [this, List.map_id]
theorem Bts.str_run {w : World} {B cap : Nat} {l : List UInt8} (h : Bts w B l cap) (cap' : Nat) : (convert 40 9 (.slice (some ⟨B, 0, none⟩) l.length cap')).run Try.prog w = .ok (.string (str l)) w :=
  Qxb6601144a.str_run (off := 0) (fun i hi => by rw [Nat.zero_add]; exact h.cell hi) cap'

theorem info5 : (Try.prog.info? 5).map (fun i => (i.zero, i.size, i.bytes)) = some (some (.int .u8 0), 1, 1) := by kernel_rfl
theorem make_run (n : Nat) (h : n ≤ 9223372036854775807) (hb : n ≤ 281474976710656) (w : World) :
    (Instr.makeSlice 40 (.int .i64 (n : Int)) (.int .i64 (n : Int))).run Try.prog w = .ok (.slice (some ⟨w.heap.size, 0, none⟩) n n) (w.alloc (.cells (madeCells #[.int .u8 0] n) 5)) :=
  run_make_row' 40 5 (.int .u8 0) 1 Try.underlying40 info5 rfl .i64 .i64 n (by omega) h w

theorem madeCells_bytes (n : Nat) : madeCells #[.int .u8 0] n = ((List.replicate n (0 : UInt8)).map bv).toArray := by
  apply Array.ext'
  simp [madeCells]
  apply List.ext_getElem
  · simp
  · intro i h1 h2
    simp [Nat.mod_one, bv]
theorem Bts.made (w : World) (n : Nat) : Bts (w.alloc (.cells (madeCells #[.int .u8 0] n) 5)) w.heap.size (List.replicate n 0) n := by
  refine ⟨[], 0, 0, ?_, by simp, fun i _ => by omega⟩
  rw [heap_alloc_new, madeCells_bytes, List.append_nil]

/-- A row of zeros. -/
def zer (n : Nat) : List UInt8 := List.replicate n 48
theorem zer_length (n : Nat) : (zer n).length = n := by simp [zer]
theorem repeat_zer (c : Nat) : Lib.repeatL [48] c = zer c := by
  induction c with
  | zero => rfl
  | succ c ih => rw [Lib.repeatL, ih]; rfl
theorem rep_any (c : Nat) (hc : c ≤ 1000000) (w : World) : Calls Try.prog 25 #[.string { data := #[48] }, .int .i64 (c : Int)] w fun e w' => e = .returned (.string (str (zer c))) ∧ Below w.heap.size w w' := by
  have h := Try.strings_Repeat { data := #[48] } c w (by omega) (by
    have : ({ data := #[48] } : ByteArray).size = 1 := rfl
    rw [this]; omega)
  have e : Lib.repeatL ({ data := #[48] } : ByteArray).data.toList c = zer c := repeat_zer c
  rw [e] at h
  exact h

theorem cat_str (a b : List UInt8) : str a ++ str b = str (a ++ b) := by
  rw [← str_of (str a ++ str b), data_append, str_data, str_data]
end Go.Proofs.Qxb6601144a
