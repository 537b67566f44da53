/-
  DERIVED. THE PLAIN FUNCTIONS of the seat: what a backslash-u escape says, with no Go in sight.
-/
import Derived.WalkKit
namespace Go.Proofs.Qxb6600429aDoor
open Go.RowKit

/-- The value of one hex digit, or -1. -/
def hexd (c : Int) : Int := if 48 ≤ c ∧ c ≤ 57 then c - 48 else if 97 ≤ c ∧ c ≤ 102 then c - 87 else if 65 ≤ c ∧ c ≤ 70 then c - 55 else -1

/-- A row of hex digits read from the left behind 'a', or -1. -/
def hexl : Int → List Int → Int
  | a, [] => a
  | a, c :: r => if hexd c < 0 then -1 else hexl (a * 16 + hexd c) r

/-- The unit that an escape writes, or -1. -/
def unit (zs : List Int) : Int :=
  if zs.length < 6 then -1 else if zs.getD 0 0 = 92 ∧ zs.getD 1 0 = 117 then hexl 0 ((zs.drop 2).take 4) else -1

theorem hexd_bd (c : Int) : -1 ≤ hexd c ∧ hexd c ≤ 15 := by
  unfold hexd
  split
  · omega
  · split
    · omega
    · split <;> omega

theorem hexd_09 {c : Int} (h : 48 ≤ c ∧ c ≤ 57) : hexd c = c - 48 := by unfold hexd; rw [if_pos h]
theorem hexd_af {c : Int} (h : 97 ≤ c ∧ c ≤ 102) : hexd c = c - 87 := by unfold hexd; rw [if_neg (by omega), if_pos h]
theorem hexd_AF {c : Int} (h : 65 ≤ c ∧ c ≤ 70) : hexd c = c - 55 := by unfold hexd; rw [if_neg (by omega), if_neg (by omega), if_pos h]
theorem hexd_no {c : Int} (h1 : ¬ (48 ≤ c ∧ c ≤ 57)) (h2 : ¬ (97 ≤ c ∧ c ≤ 102)) (h3 : ¬ (65 ≤ c ∧ c ≤ 70)) : hexd c = -1 := by
  unfold hexd; rw [if_neg h1, if_neg h2, if_neg h3]

theorem hexl_cons {a c : Int} {r : List Int} (h : 0 ≤ hexd c) : hexl a (c :: r) = hexl (a * 16 + hexd c) r := by
  rw [hexl, if_neg (by omega)]
theorem hexl_no {a c : Int} {r : List Int} (h : hexd c < 0) : hexl a (c :: r) = -1 := by
  rw [hexl, if_pos h]

theorem hexl_bd : ∀ (r : List Int) (a : Int), 0 ≤ a → -1 ≤ hexl a r ∧ hexl a r < (a + 1) * 16 ^ r.length
  | [], a, h => by simp [hexl]; omega
  | c :: r, a, h => by
    have hb := hexd_bd c
    by_cases hc : hexd c < 0
    · rw [hexl_no hc]
      refine ⟨by omega, ?_⟩
      have : (0 : Int) ≤ (a + 1) * 16 ^ (c :: r).length := Int.mul_nonneg (by omega) (Int.pow_nonneg (by omega))
      omega
    · rw [hexl_cons (by omega)]
      have ih := hexl_bd r (a * 16 + hexd c) (by omega)
      refine ⟨ih.1, Int.lt_of_lt_of_le ih.2 ?_⟩
      have e : (a + 1) * 16 ^ (c :: r).length = ((a + 1) * 16) * 16 ^ r.length := by
        rw [List.length_cons, Int.pow_succ, Int.mul_assoc, Int.mul_comm (16 ^ r.length) 16, ← Int.mul_assoc]
      rw [e]
      exact Int.mul_le_mul_of_nonneg_right (by omega) (Int.pow_nonneg (by omega))

theorem unit_bd (zs : List Int) : -1 ≤ unit zs ∧ unit zs ≤ 65535 := by
  unfold unit
  split
  · omega
  · split
    · have hb := hexl_bd ((zs.drop 2).take 4) 0 (by omega)
      have hl : ((zs.drop 2).take 4).length = 4 := by simp; omega
      rw [hl] at hb
      omega
    · omega

theorem unit_short {zs : List Int} (h : zs.length < 6) : unit zs = -1 := by unfold unit; rw [if_pos h]

theorem unit_six (a b c d e f : Int) (r : List Int) : unit (a :: b :: c :: d :: e :: f :: r) = if a = 92 ∧ b = 117 then hexl 0 [c, d, e, f] else -1 := by
  unfold unit
  rw [if_neg (by simp)]
  simp [List.getD]
/-- The first six bytes alone count. -/
theorem unit_pre {zs : List Int} (h : 6 ≤ zs.length) (ys : List Int) : unit (zs ++ ys) = unit zs := by
  match zs, h with
  | a :: b :: c :: d :: e :: f :: r, _ =>
    simp only [List.cons_append]
    rw [unit_six, unit_six]
theorem unit_take {zs : List Int} (h : 6 ≤ zs.length) : unit (zs.take 6) = unit zs := by
  have := unit_pre (zs := zs.take 6) (by simp; omega) (zs.drop 6)
  rw [List.take_append_drop] at this
  exact this.symm

/-- 'c | 32' on a byte. -/
theorem low_all : ∀ n : Fin 256, (97 ≤ n.val ∧ n.val ≤ 102 → bits .or .u8 (n.val : Int) 32 = n.val) ∧ (65 ≤ n.val ∧ n.val ≤ 70 → bits .or .u8 (n.val : Int) 32 = n.val + 32) ∧
    (¬ (97 ≤ n.val ∧ n.val ≤ 102) → ¬ (65 ≤ n.val ∧ n.val ≤ 70) → bits .or .u8 (n.val : Int) 32 < 97 ∨ 102 < bits .or .u8 (n.val : Int) 32) := by
  decide +kernel
end Go.Proofs.Qxb6600429aDoor
