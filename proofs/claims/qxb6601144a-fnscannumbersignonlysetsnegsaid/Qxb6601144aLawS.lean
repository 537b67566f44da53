/-
  DERIVED. The walk of FnScanNumberSignOnlySetsNeg.
-/
import Derived.Test.Qxb6601144aScanAll
namespace Go.Proofs.Qxb6601144a
open Go.RowKit Go.Joins

theorem bytesS_yes (s : ByteArray) (h : s.size ≤ 1048576) (w : World) :
    Calls Try.prog 10 #[.string s] w fun e w' => e = .returned (.bool true) ∧ w = w' := by
  go_enter Try.func10, Try.ntmps10
  go_wp2
  go_ret
  exact ⟨rfl, rfl⟩
theorem bytesS_no (s : ByteArray) (h : 1048576 < s.size) (w : World) :
    Calls Try.prog 10 #[.string s] w fun e w' => e = .returned (.bool false) ∧ w = w' := by
  go_enter Try.func10, Try.ntmps10
  go_wp2
  go_ret
  exact ⟨rfl, rfl⟩

theorem scan_plain {l : List UInt8} (h : sg l = 0) (hn : ng l = false) : scan l = core false l := by rw [scan, h, hn]; rfl
theorem scan_plus (l : List UInt8) : scan (43 :: l) = core false l := rfl
theorem scan_minus (l : List UInt8) : scan (45 :: l) = core true l := rfl

def numT (r : Num) : Value := .tuple #[.bool r.neg, .string (str r.int), .string (str r.frac), .int .i64 r.exp, .bool r.ok]
theorem zz_any (s : ByteArray) (hs : s.size ≤ 9223372036854775806) (w : World) (r : Num) (h : scan s.data.toList = r) :
    Calls Try.prog 8 #[.string s] w fun e w' => e = .returned (.tuple #[.bool r.neg, .string (str r.int), .string (str r.frac), .int .i64 r.exp, .bool r.ok]) ∧ Below w.heap.size w w' := by
  subst h
  exact zzscan_any s hs w

theorem cat_size (c : UInt8) (s : ByteArray) : ((⟨#[c]⟩ : ByteArray) ++ s).size = s.size + 1 := by
  rw [Lib.size_eq, data_append, List.length_append, ← Lib.size_eq s, Nat.add_comm]
  rfl

set_option maxHeartbeats 1000000 in
set_option maxRecDepth 10000 in
theorem walkS (s : ByteArray) (w : World) :
    Calls Try.prog 4 #[.string s] w fun e w' => e = .returned (.bool true) ∧ Below w.heap.size w w' := by
  by_cases hlen : s.size ≤ 1048576
  · have hB := bytesS_yes s hlen w
    by_cases hsg : sg s.data.toList = 0
    · have hng : ng s.data.toList = false := by
        cases h : s.data.toList with
        | nil => rfl
        | cons c r =>
          rw [h] at hsg
          refine ng_no (fun e => ?_)
          rw [sg_cons (.inr e)] at hsg
          cases hsg
      have C0 := fun w => zz_any s (by omega) w _ (scan_plain hsg hng)
      have e1 : ((⟨#[43]⟩ : ByteArray) ++ s).data.toList = 43 :: s.data.toList := by rw [data_append]; rfl
      have e2 : ((⟨#[45]⟩ : ByteArray) ++ s).data.toList = 45 :: s.data.toList := by rw [data_append]; rfl
      have C1 := fun w => zz_any (⟨#[43]⟩ ++ s) (by rw [cat_size]; omega) w _ (by rw [e1, scan_plus])
      have C2 := fun w => zz_any (⟨#[45]⟩ ++ s) (by rw [cat_size]; omega) w _ (by rw [e2, scan_minus])
      clear e1 e2 hng
      have k1 : (core false s.data.toList).neg = false := rfl
      have k2 : (core true s.data.toList).neg = true := rfl
      have k3 : (core true s.data.toList).int = (core false s.data.toList).int := rfl
      have k4 : (core true s.data.toList).frac = (core false s.data.toList).frac := rfl
      have k5 : (core true s.data.toList).exp = (core false s.data.toList).exp := rfl
      have k6 : (core true s.data.toList).ok = (core false s.data.toList).ok := rfl
      rw [k1] at C0 C1
      rw [k2, k3, k4, k5, k6] at C2
      generalize str (core false s.data.toList).int = a2 at C0 C1 C2
      generalize str (core false s.data.toList).frac = a3 at C0 C1 C2
      generalize (core false s.data.toList).exp = a4 at C0 C1 C2
      generalize (core false s.data.toList).ok = a5 at C0 C1 C2
      clear k1 k2 k3 k4 k5 k6
      have step : ∀ (hs : s.size = 0 ∨ ∃ h : 0 < s.size, ((s[0].toNat : Int) == 43) = false ∧ ((s[0].toNat : Int) == 45) = false),
          Calls Try.prog 4 #[.string s] w fun e w' => e = .returned (.bool true) ∧ Below w.heap.size w w' := by
        intro hs
        clear hsg
        rcases hs with hz | ⟨hz, b1, b2⟩
        all_goals
          go_enter Try.func4, Try.ntmps4
          go_wp2_with (first | (go_at_call 10; refine hB.mono ?_; rintro e w' ⟨rfl, rfl⟩) | (go_at_call 8; refine (C0 _).mono ?_))
          rintro e w1 ⟨rfl, hb1⟩
          clear C0 hB
          go_wp2_with (go_at_call 8; refine (C1 _).mono ?_)
          rintro e w2 ⟨rfl, hb2⟩
          clear C1
          go_wp2_with (go_at_call 8; refine (C2 _).mono ?_)
          rintro e w3 ⟨rfl, hb3⟩
          clear C2
          go_wp2
          go_ret
          exact ⟨by simp, (hb1.trans (hb2.mono hb1.size)).trans (hb3.mono (Nat.le_trans hb1.size hb2.size))⟩
      refine step ?_
      rcases h : s.data.toList with _ | ⟨c, r⟩
      · left
        have := at_end (s := s) (n := 0) h
        omega
      · right
        obtain ⟨hn, hc⟩ := at_pos (s := s) (n := 0) h
        subst hc
        rw [h] at hsg
        have : ¬ (s[0].toNat = 43 ∨ s[0].toNat = 45) := fun e => by rw [sg_cons e] at hsg; cases hsg
        exact ⟨hn, by simp; omega, by simp; omega⟩
    · rcases h : s.data.toList with _ | ⟨c, r⟩
      · rw [h] at hsg
        exact absurd rfl hsg
      · obtain ⟨hn, hc⟩ := at_pos (s := s) (n := 0) h
        subst hc
        rw [h] at hsg
        by_cases h43 : s[0].toNat = 43
        · have b1 : ((s[0].toNat : Int) == 43) = true := by simp [h43]
          clear h hsg h43
          go_enter Try.func4, Try.ntmps4
          go_wp2_with (go_at_call 10; refine hB.mono ?_; rintro e w' ⟨rfl, rfl⟩)
          go_ret
          exact ⟨rfl, Below.refl _ _⟩
        · have h45 : s[0].toNat = 45 := by
            rcases Classical.em (s[0].toNat = 45) with h' | h'
            · exact h'
            · rw [sg_cons_no (by omega)] at hsg; exact absurd rfl hsg
          have b1 : ((s[0].toNat : Int) == 43) = false := by simp [h45]
          have b2 : ((s[0].toNat : Int) == 45) = true := by simp [h45]
          clear h hsg h43 h45
          go_enter Try.func4, Try.ntmps4
          go_wp2_with (go_at_call 10; refine hB.mono ?_; rintro e w' ⟨rfl, rfl⟩)
          go_ret
          exact ⟨rfl, Below.refl _ _⟩
  · have hB := bytesS_no s (by omega) w
    clear hlen
    go_enter Try.func4, Try.ntmps4
    go_wp2_with (go_at_call 10; refine hB.mono ?_; rintro e w' ⟨rfl, rfl⟩)
    go_ret
    exact ⟨rfl, Below.refl _ _⟩
end Go.Proofs.Qxb6601144a
