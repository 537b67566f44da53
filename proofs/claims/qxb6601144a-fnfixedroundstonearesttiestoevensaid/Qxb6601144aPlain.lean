/-
  DERIVED. THE PLAIN FUNCTIONS of the seat: what a decimal text says, as functions on lists of bytes.
-/
import Derived.WalkKit
import Derived.Lib.Strings
import Derived.Lib.SmallJoins
namespace Go.Proofs.Qxb6601144a
open Go.RowKit

/-- A decimal digit. -/
def isD (c : UInt8) : Bool := decide (48 ≤ (c.toNat : Int) ∧ (c.toNat : Int) ≤ 57)
theorem isD_yes {c : UInt8} (h0 : 48 ≤ c.toNat) (h1 : c.toNat ≤ 57) : isD c = true := by simp [isD]; omega
theorem isD_iff {c : UInt8} : isD c = true ↔ 48 ≤ c.toNat ∧ c.toNat ≤ 57 := by simp [isD]; omega
theorem isD_no {c : UInt8} : isD c = false ↔ ¬ (48 ≤ c.toNat ∧ c.toNat ≤ 57) := by
  rw [← isD_iff]; cases isD c <;> simp

/-- A list of bytes as a text. -/
def str (l : List UInt8) : ByteArray := ⟨l.toArray⟩
theorem str_data (l : List UInt8) : (str l).data.toList = l := by simp [str]
theorem str_size (l : List UInt8) : (str l).size = l.length := by simp [str, ByteArray.size]
theorem str_of (s : ByteArray) : str s.data.toList = s := by cases s; simp [str]
theorem str_inj {a b : List UInt8} (h : str a = str b) : a = b := by
  have := congrArg (fun s : ByteArray => s.data.toList) h
  simpa [str] using this
theorem str_nil : str [] = ByteArray.empty := rfl

/-- The digits ahead. -/
def dgs (l : List UInt8) : List UInt8 := l.takeWhile isD
/-- What follows them. -/
def rst (l : List UInt8) : List UInt8 := l.drop (dgs l).length
theorem dgs_le (l : List UInt8) : (dgs l).length ≤ l.length := (List.takeWhile_sublist _).length_le
theorem dgs_take (l : List UInt8) : dgs l = l.take (dgs l).length := by
  unfold dgs
  exact (List.prefix_iff_eq_take.1 (List.takeWhile_prefix _))
theorem dgs_cons_yes {c : UInt8} {l : List UInt8} (h : isD c = true) : dgs (c :: l) = c :: dgs l := by unfold dgs; rw [List.takeWhile_cons, if_pos h]
theorem dgs_cons_no {c : UInt8} {l : List UInt8} (h : isD c = false) : dgs (c :: l) = [] := by unfold dgs; rw [List.takeWhile_cons, if_neg (by simp [h])]
theorem dgs_nil : dgs [] = [] := rfl

theorem extract_str (s : ByteArray) (a b : Nat) : s.extract a b = str ((s.data.toList.drop a).take (b - a)) := by
  rw [← str_of (s.extract a b), Lib.extract_data]

theorem drop_cons (s : ByteArray) (j : Nat) (h : j < s.size) : s.data.toList.drop j = s[j] :: s.data.toList.drop (j + 1) := by
  rw [List.drop_eq_getElem_cons (by simpa using h)]
  rfl
end Go.Proofs.Qxb6601144a
