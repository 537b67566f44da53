/-
  DERIVED. scanNumber and ZZScanNumber compute the plain function 'scan'.
-/
import Derived.Test.Qxb6601144aScan
import Derived.Deep.QuietTactic
import Derived.BigQuiet
namespace Go.Proofs.Qxb6601144a
open Go.RowKit Go.Joins

/-- A decimal text as it is read. -/
structure Num where
  neg : Bool
  int : List UInt8
  frac : List UInt8
  exp : Int
  ok : Bool

/-- The digits behind the point, and what follows. -/
def frc (l : List UInt8) : List UInt8 := if dt l then dgs (l.drop 1) else []
def aft (l : List UInt8) : List UInt8 := if dt l then rst (l.drop 1) else l
def tail2 (l : List UInt8) : Int × Bool := if dgs l = [] ∧ frc (rst l) = [] then (0, false) else fin (aft (rst l))
/-- Behind the sign. -/
def core (neg : Bool) (l : List UInt8) : Num := ⟨neg, dgs l, frc (rst l), (tail2 l).1, (tail2 l).2⟩
def scan (l : List UInt8) : Num := core (ng l) (l.drop (sg l))

def numV (r : Num) : Value := .tuple #[.agg #[.bool r.neg, .string (str r.int), .string (str r.frac), .int .i64 r.exp], .bool r.ok]

theorem scan_any (s : ByteArray) (hs : s.size ≤ 9223372036854775806) (w : World) :
    Calls Try.prog 21 #[.string s] w fun e w' => e = .returned (numV (scan s.data.toList)) ∧ Below w.heap.size w w' := by
  obtain ⟨L, hL⟩ : ∃ L, L = s.data.toList := ⟨_, rfl⟩
  have hLs : L.length = s.size := by rw [hL, Lib.size_eq]
  have hi0 : sg L ≤ s.size := by rw [← hLs]; exact sg_le L
  have H1 : dgs (L.drop (sg L)) = dgs (s.data.toList.drop (sg L)) ∧ sg L + (dgs (L.drop (sg L))).length = sg L + (dgs (L.drop (sg L))).length := ⟨by rw [hL], rfl⟩
  have hn1 : sg L + (dgs (L.drop (sg L))).length ≤ s.size := step_list hi0 ⟨H1.1, rfl⟩
  obtain ⟨n1, hn1e⟩ : ∃ n, n = sg L + (dgs (L.drop (sg L))).length := ⟨_, rfl⟩
  have hr1 : rst (L.drop (sg L)) = L.drop n1 := by rw [rst, List.drop_drop, ← hn1e]
  rw [← hn1e] at hn1
  have hfin := scan_core s hs w (scan L).exp (scan L).ok (ng L) (sg L) (by show _ ∧ _; rw [← hL]; exact ⟨rfl, rfl⟩) hi0 (dgs (L.drop (sg L))) n1 ⟨H1.1, hn1e⟩ hn1
    (frc (L.drop n1)) (if dt (L.drop n1) then n1 + 1 + (frc (L.drop n1)).length else n1)
    (by
      show _ ∧ _
      rw [← hL]
      refine ⟨fun h => ?_, fun h => ?_⟩
      · rw [frc, if_pos h, List.drop_drop, if_pos h]
        exact ⟨rfl, rfl⟩
      · rw [frc, if_neg (by simp [h]), if_neg (by simp [h])]
        exact ⟨rfl, rfl⟩)
    (by
      by_cases h : dt (L.drop n1) = true
      · rw [if_pos h]
        have hlt : n1 < s.size := by
          rcases Nat.lt_or_ge n1 s.size with h' | h'
          · exact h'
          · rw [List.drop_eq_nil_of_le (by omega)] at h; cases h
        have : frc (L.drop n1) = dgs (s.data.toList.drop (n1 + 1)) := by rw [frc, if_pos h, List.drop_drop, hL]
        exact step_list (k := n1 + 1) (by omega) ⟨this, rfl⟩
      · rw [if_neg h]; exact hn1)
    (by
      show _ ∧ _
      rw [← hL]
      have haft : aft (L.drop n1) = L.drop (if dt (L.drop n1) then n1 + 1 + (frc (L.drop n1)).length else n1) := by
        by_cases h : dt (L.drop n1) = true
        · rw [aft, if_pos h, if_pos h, frc, if_pos h, rst, List.drop_drop, List.drop_drop, Nat.add_assoc]
        · rw [aft, if_neg h, if_neg h]
      refine ⟨fun h => ?_, fun h => ?_⟩
      · show (tail2 (L.drop (sg L))).1 = 0 ∧ (tail2 (L.drop (sg L))).2 = false
        rw [tail2, hr1, if_pos h]
        exact ⟨rfl, rfl⟩
      · show ((tail2 (L.drop (sg L))).1, (tail2 (L.drop (sg L))).2) = _
        rw [tail2, hr1, if_neg h, haft])
  rw [← hL]
  refine hfin.mono fun e w' ⟨he, hb⟩ => ⟨?_, hb⟩
  rw [he, ← hr1]
  rfl

theorem numV_def (r : Num) : numV r = .tuple #[.agg #[.bool r.neg, .string (str r.int), .string (str r.frac), .int .i64 r.exp], .bool r.ok] := rfl

set_option maxHeartbeats 1000000 in
set_option maxRecDepth 10000 in
theorem zzscan_any (s : ByteArray) (hs : s.size ≤ 9223372036854775806) (w : World) :
    Calls Try.prog 8 #[.string s] w fun e w' => e = .returned (.tuple #[.bool (scan s.data.toList).neg, .string (str (scan s.data.toList).int), .string (str (scan s.data.toList).frac), .int .i64 (scan s.data.toList).exp, .bool (scan s.data.toList).ok]) ∧ Below w.heap.size w w' := by
  have hI := scan_any s hs w
  rw [numV_def] at hI
  generalize (scan s.data.toList).neg = a1 at hI ⊢
  generalize str (scan s.data.toList).int = a2 at hI ⊢
  generalize str (scan s.data.toList).frac = a3 at hI ⊢
  generalize (scan s.data.toList).exp = a4 at hI ⊢
  generalize (scan s.data.toList).ok = a5 at hI ⊢
  go_enter Try.func8, Try.ntmps8
  go_wp2_with (go_at_call 21; refine hI.mono ?_; rintro e w1 ⟨rfl, hb⟩)
  go_quiet (fail)
  go_wp2
  exact bodyPost_ret (v := .tuple #[.bool a1, .string a2, .string a3, .int .i64 a4, .bool a5]) (by simp [results, Try.results8, go_sem]) rfl ⟨rfl, (hb.alloc hb.size _).trans (below_draws _ _ _)⟩
end Go.Proofs.Qxb6601144a
