/-
  DERIVED. ROWS OF BYTES IN MEMORY: a slice that holds a list of numbers; a block that is filled from the left.
-/
import Derived.WalkKit
import Derived.WalkSpells
import Derived.WalkLawsBesides
import Derived.Deep.OwnRows
import Derived.Lib.SmallJoins
namespace Go.Proofs.Qxb6600429aDoor
open Go.RowKit Go.Joins

/-- The slice value v holds the bytes zs. -/
def Row (w : World) (v : Value) (zs : List Int) : Prop :=
  ∃ a cap, v = .slice a zs.length cap ∧ zs.length ≤ cap ∧ (zs ≠ [] → ∃ b off, a = some ⟨b, off, none⟩ ∧ b < w.heap.size ∧ ∀ i, i < zs.length → w.cell? ⟨b, off + i, none⟩ = some (.int .u8 (zs.getD i 0))) ∧ (∀ z ∈ zs, 0 ≤ z ∧ z ≤ 255)

theorem Row.later {w w' : World} {v : Value} {zs : List Int} (h : Row w v zs) (hb : Below w.heap.size w w') : Row w' v zs := by
  obtain ⟨a, cap, hv, hcp, hc, hz⟩ := h
  refine ⟨a, cap, hv, hcp, fun hne => ?_, hz⟩
  obtain ⟨b, off, ha, hlt, hcell⟩ := hc hne
  exact ⟨b, off, ha, Nat.lt_of_lt_of_le hlt hb.size, fun i hi => (hb.cell (p := ⟨b, off + i, none⟩) hlt).trans (hcell i hi)⟩

/-- Block B is a row of the bytes cur, of element type e, nothing frozen. -/
def Buf (e : TypeId) (w : World) (B : Nat) (cur : List Int) : Prop := w.heap[B]? = some (.cells (cur.map (Value.int .u8)).toArray e (0, 0))

theorem Buf.lt {e : TypeId} {w : World} {B : Nat} {cur : List Int} (h : Buf e w B cur) : B < w.heap.size := lt_of_block h
theorem Buf.cell {e : TypeId} {w : World} {B : Nat} {cur : List Int} (h : Buf e w B cur) {i : Nat} (hi : i < cur.length) : w.cell? ⟨B, i, none⟩ = some (.int .u8 (cur.getD i 0)) := by
  rw [cell_of_block h]
  simp [List.getD, List.getElem?_eq_getElem hi]
theorem Buf.free {e : TypeId} {w : World} {B : Nat} {cur : List Int} (h : Buf e w B cur) (i : Nat) : w.frozen? ⟨B, i, none⟩ = false := unfrozen_of_block h i
theorem Buf.set {e : TypeId} {w : World} {B : Nat} {cur : List Int} (h : Buf e w B cur) (i : Nat) (n : Int) : Buf e (w.setCell ⟨B, i, none⟩ (.int .u8 n)) B (cur.set i n) := by
  unfold Buf
  rw [block_setCell h, List.setIfInBounds_toArray, List.map_set]
theorem Buf.later {e : TypeId} {w w' : World} {B : Nat} {cur : List Int} (h : Buf e w B cur) (hb : Below w.heap.size w w') : Buf e w' B cur := (hb.block B h.lt).trans h
theorem Buf.laterAt {e : TypeId} {w w' : World} {B n : Nat} {cur : List Int} (h : Buf e w B cur) (hn : B < n) (hb : Below n w w') : Buf e w' B cur := (hb.block B hn).trans h
theorem Buf.row {e : TypeId} {w : World} {B : Nat} {cur : List Int} (h : Buf e w B cur) (hz : ∀ z ∈ cur, 0 ≤ z ∧ z ≤ 255) {cap : Nat} (hcp : cur.length ≤ cap) : Row w (.slice (some ⟨B, 0, none⟩) cur.length cap) cur :=
  ⟨_, cap, rfl, hcp, fun _ => ⟨B, 0, rfl, h.lt, fun i hi => by rw [Nat.zero_add]; exact h.cell hi⟩, hz⟩

/-- The row T filled as far as k, zeros behind. -/
def fill (T : List Int) (k : Nat) : List Int := T.take k ++ List.replicate (T.length - k) 0
theorem fill_length {T : List Int} {k : Nat} (h : k ≤ T.length) : (fill T k).length = T.length := by simp [fill]; omega
theorem fill_all (T : List Int) : fill T T.length = T := by simp [fill]
theorem fill_zero (T : List Int) : fill T 0 = List.replicate T.length 0 := by simp [fill]
theorem fill_set {T : List Int} {k : Nat} (h : k < T.length) : (fill T k).set k (T.getD k 0) = fill T (k + 1) := by
  unfold fill
  rw [List.set_append_right _ _ (by simp; omega)]
  have e1 : T.length - k = (T.length - (k + 1)) + 1 := by omega
  have e2 : k - (T.take k).length = 0 := by simp; omega
  have e3 : T.take (k + 1) = T.take k ++ [T[k]] := List.take_succ_eq_append_getElem h
  have e4 : T.getD k 0 = T[k] := by simp [List.getD, List.getElem?_eq_getElem h]
  rw [e2, e1, List.replicate_succ, List.set_cons_zero, e3, e4, List.append_assoc]
  rfl

theorem madeCells_bytes (n : Nat) : madeCells #[.int .u8 0] n = ((List.replicate n (0 : Int)).map (Value.int .u8)).toArray := by
  apply Array.ext'
  simp [madeCells]
  apply List.ext_getElem
  · simp
  · intro i h1 h2
    simp [Nat.mod_one]

theorem Buf.made (e : TypeId) (w : World) (n : Nat) : Buf e (w.alloc (.cells (madeCells #[.int .u8 0] n) e)) w.heap.size (List.replicate n 0) := by
  unfold Buf
  rw [heap_alloc_new, madeCells_bytes]
theorem Buf.fillStart (e : TypeId) (w : World) (T : List Int) : Buf e (w.alloc (.cells (madeCells #[.int .u8 0] T.length) e)) w.heap.size (fill T 0) := by
  rw [fill_zero]; exact Buf.made e w _
/-- One byte more. -/
theorem Buf.fillStep {e : TypeId} {w : World} {B : Nat} {T : List Int} {k : Nat} (h : Buf e w B (fill T k)) (hk : k < T.length) (n : Int) (hn : n = T.getD k 0) : Buf e (w.setCell ⟨B, k, none⟩ (.int .u8 n)) B (fill T (k + 1)) := by
  rw [← fill_set hk, ← hn]; exact h.set k n
theorem Buf.fillCell {e : TypeId} {w : World} {B : Nat} {T : List Int} {k : Nat} (h : Buf e w B (fill T k)) (hk : k < T.length) : w.cell? ⟨B, k, none⟩ = some (.int .u8 0) := by
  rw [h.cell (by rw [fill_length (by omega)]; exact hk)]
  have e : (fill T k).getD k 0 = 0 := by
    unfold fill
    rw [List.getD_eq_getElem?_getD, List.getElem?_append_right (by simp; omega), List.getElem?_replicate]
    split <;> rfl
  rw [e]
end Go.Proofs.Qxb6600429aDoor
