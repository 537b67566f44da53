/-
  DERIVED. The laws' small helpers: b1IsDigit, b1AllDigits, b1Strip.
-/
import Derived.Test.Qxb6601144aRows
import Derived.Test.Qxb6601144aPlain
import Derived.WalkSpells
import Derived.WalkLawsBesides
namespace Go.Proofs.Qxb6601144a
open Go.RowKit Go.Joins

theorem ret_bool {a b : Bool} (h : a = b) : Ending.returned (.bool a) = .returned (.bool b) := by rw [h]
theorem isDigit_any (c : UInt8) (w : World) : Calls Try.prog 14 #[.int .u8 (c.toNat : Int)] w fun e w' => e = .returned (.bool (isD c)) ∧ w = w' := by
  by_cases h : 48 ≤ (c.toNat : Int) ∧ (c.toNat : Int) ≤ 57
  · have e : isD c = true := isD_yes (by omega) (by omega)
    rw [e]
    obtain ⟨h0, h1⟩ := h
    clear e
    go_enter Try.func14, Try.ntmps14
    go_wp2
    go_ret
    exact ⟨rfl, rfl⟩
  · have e : isD c = false := isD_no.2 (by omega)
    rw [e]
    clear e
    rcases (show (c.toNat : Int) < 48 ∨ 57 < (c.toNat : Int) from by omega) with hx | hx
    all_goals
      clear h
      go_enter Try.func14, Try.ntmps14
      go_wp2
      go_ret
      first | exact ⟨rfl, rfl⟩ | exact ⟨ret_bool (decide_eq_false (by omega)), rfl⟩

theorem drop_end {s : ByteArray} {k : Nat} (h : s.size ≤ k) : s.data.toList.drop k = [] := List.drop_eq_nil_of_le (by rw [← Lib.size_eq]; exact h)

set_option maxHeartbeats 1000000 in
theorem allDigits_any (s : ByteArray) (b : Bool) (hb : s.data.toList.all isD = b) (hs : s.size ≤ 9223372036854775806) (w : World) : Calls Try.prog 15 #[.string s] w fun e w' => e = .returned (.bool b) ∧ w = w' := by
  have HB : Hid (s.data.toList.all isD = b) := hb
  clear hb
  go_enter Try.func15, Try.ntmps15
  go_wp2
  go_loop [3] (fun i => ∃ k : Nat, k ≤ s.size ∧ i = .int .i64 k ∧ Hid ((s.data.toList.drop k).all isD = b)) (fun i => s.size - (intOf i).toNat)
  case atStart => exact ⟨0, Nat.zero_le _, rfl, HB⟩
  case round =>
    obtain ⟨k, hk, rfl, HK⟩ := hrel
    by_cases hlt : k < s.size
    · have hkk := HK.out
      rw [drop_cons s k hlt, List.all_cons] at hkk
      by_cases hD : isD s[k] = true
      · rw [hD, Bool.true_and] at hkk
        have HK2 : Hid ((s.data.toList.drop (k + 1)).all isD = b) := hkk
        have hC := fun w => isDigit_any s[k] w
        rw [hD] at hC
        clear hkk HK hD
        go_wp2_with (go_at_call 14; refine (hC _).mono ?_; rintro e w' ⟨rfl, rfl⟩)
        go_round
        case rel => exact ⟨k + 1, by omega, by go_num, HK2⟩
        case measure => simp [intOf]; omega
      · have hD' : isD s[k] = false := by simpa using hD
        rw [hD', Bool.false_and] at hkk
        subst hkk
        have hC := fun w => isDigit_any s[k] w
        rw [hD'] at hC
        clear HK hD hD' HB
        go_wp2_with (go_at_call 14; refine (hC _).mono ?_; rintro e w' ⟨rfl, rfl⟩)
        go_ret
        exact ⟨rfl, rfl⟩
    · have hkk := HK.out
      rw [drop_end (by omega)] at hkk
      have hb : true = b := hkk
      subst hb
      clear hkk HK HB
      go_wp2
      go_ret
      exact ⟨rfl, rfl⟩

/-- Leading zeros struck. -/
def isZ (c : UInt8) : Bool := (c.toNat : Int) == 48
def strip (l : List UInt8) : List UInt8 := l.dropWhile isZ
theorem strip_yes {c : UInt8} {r : List UInt8} (h : isZ c = true) : strip (c :: r) = strip r := by unfold strip; rw [List.dropWhile_cons, if_pos h]
theorem strip_no {c : UInt8} {r : List UInt8} (h : isZ c = false) : strip (c :: r) = c :: r := by unfold strip; rw [List.dropWhile_cons, if_neg (by simp [h])]

set_option maxHeartbeats 1000000 in
theorem strip_any (s : ByteArray) (L : List UInt8) (hL : strip s.data.toList = L) (hs : s.size ≤ 9223372036854775806) (w : World) : Calls Try.prog 16 #[.string s] w fun e w' => e = .returned (.string (str L)) ∧ w = w' := by
  have HB : Hid (strip s.data.toList = L) := hL
  clear hL
  go_enter Try.func16, Try.ntmps16
  go_wp2
  go_loop [3] (fun i => ∃ k : Nat, k ≤ s.size ∧ i = .int .i64 k ∧ Hid (strip (s.data.toList.drop k) = L)) (fun i => s.size - (intOf i).toNat)
  case atStart => exact ⟨0, Nat.zero_le _, rfl, HB⟩
  case round =>
    obtain ⟨k, hk, rfl, HK⟩ := hrel
    clear HB
    by_cases hlt : k < s.size
    · have hkk := HK.out
      rw [drop_cons s k hlt] at hkk
      by_cases hD : isZ s[k] = true
      · rw [strip_yes hD] at hkk
        have HK2 : Hid (strip (s.data.toList.drop (k + 1)) = L) := hkk
        have b1 : ((s[k].toNat : Int) == 48) = true := hD
        clear hkk HK hD
        go_wp2
        go_round
        case rel => exact ⟨k + 1, by omega, by go_num, HK2⟩
        case measure => simp [intOf]; omega
      · have hD' : isZ s[k] = false := by simpa using hD
        rw [strip_no hD', ← drop_cons s k hlt] at hkk
        have HE : Hid (str L = s.extract k s.size) := by
          show _ = _
          rw [extract_str, ← hkk, List.take_of_length_le (by rw [List.length_drop, ← Lib.size_eq]; omega)]
        have b1 : ((s[k].toNat : Int) == 48) = false := hD'
        clear hkk HK hD hD'
        go_wp2
        go_ret
        exact ⟨by rw [HE.out]; rfl, rfl⟩
    · have hkk := HK.out
      rw [drop_end (by omega)] at hkk
      have HE : Hid (str L = s.extract k s.size) := by
        show _ = _
        rw [extract_str, ← hkk, drop_end (by omega), List.take_nil]; rfl
      clear hkk HK
      go_wp2
      go_ret
      exact ⟨by rw [HE.out]; rfl, rfl⟩
end Go.Proofs.Qxb6601144a
