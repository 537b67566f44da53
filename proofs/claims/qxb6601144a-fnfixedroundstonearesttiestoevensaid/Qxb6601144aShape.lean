/-
  DERIVED. b1DecimalOK; the bounds on lengths of the two laws over fixed.
-/
import Derived.Test.Qxb6601144aIncDec
namespace Go.Proofs.Qxb6601144a
open Go.RowKit Go.Joins

/-- The shape of a Decimal's fields. -/
structure Shape (neg : Bool) (D : List UInt8) (ex : Int) : Prop where
  dig : Dig D
  zero : D = [] → neg = false ∧ ex = 0
  noz : NoZ D
  last : ∀ h : 0 < D.length, (D[D.length - 1]'(by omega)).toNat ≠ 48

set_option maxHeartbeats 1000000 in
theorem decOK_empty (neg : Bool) (D : List UInt8) (ex : Int) (hD : D = []) (w : World) : Calls Try.prog 12 #[.bool neg, .string (str D), .int .i64 ex] w fun e w' => e = .returned (.bool (!neg && (ex == 0))) ∧ w = w' := by
  have hE : (str D).toList.isEmpty = true := by rw [Lib.toList_data, str_data, hD]; rfl
  clear hD
  cases neg
  all_goals
    go_enter Try.func12, Try.ntmps12
    go_wp2
    go_ret
    exact ⟨rfl, rfl⟩

set_option maxHeartbeats 1000000 in
theorem decOK_some (neg : Bool) (D : List UInt8) (ex : Int) (hD : 0 < D.length) (hl : D.length ≤ 9223372036854775806) (b : Bool)
    (hb : b = (!((D[0].toNat : Int) == 48) && !((D[D.length - 1].toNat : Int) == 48) && D.all isD)) (w : World) : Calls Try.prog 12 #[.bool neg, .string (str D), .int .i64 ex] w fun e w' => e = .returned (.bool b) ∧ w = w' := by
  have hE : (str D).toList.isEmpty = false := by
    rw [Lib.toList_data, str_data]
    cases D with
    | nil => simp at hD
    | cons => rfl
  have hsz : (str D).size = D.length := str_size D
  have h0 : (str D)[0]'(by omega) = D[0] := rfl
  have h1 : (str D)[D.length - 1]'(by omega) = D[D.length - 1] := rfl
  have hA := fun w => allDigits_any (str D) (D.all isD) (by rw [str_data]) (by omega) w
  generalize D[0] = c at h0 hb
  generalize D[D.length - 1] = d at h1 hb
  have hi : (D.length : Int) - 1 = ((D.length - 1 : Nat) : Int) := by omega
  have hp : 0 < (str D).size := by omega
  by_cases hc : ((c.toNat : Int) == 48) = true
  · rw [hc] at hb
    simp at hb
    subst hb
    clear hA
    go_enter Try.func12, Try.ntmps12
    go_wp2
    go_ret
    exact ⟨rfl, rfl⟩
  · have hc' : ((c.toNat : Int) == 48) = false := by simpa using hc
    by_cases hd : ((d.toNat : Int) == 48) = true
    · rw [hd] at hb
      simp at hb
      subst hb
      clear hA hc
      go_enter Try.func12, Try.ntmps12
      go_wp2
      go_ret
      exact ⟨rfl, rfl⟩
    · have hd' : ((d.toNat : Int) == 48) = false := by simpa using hd
      rw [hc', hd'] at hb
      have hb' : b = D.all isD := by simpa using hb
      rw [← hb'] at hA
      clear hc hd hb hb'
      go_enter Try.func12, Try.ntmps12
      go_wp2_with (go_at_call 15; refine (hA _).mono ?_; rintro e w' ⟨rfl, rfl⟩)
      go_ret
      exact ⟨rfl, rfl⟩

/-- What b1DecimalOK answers: true under the shape alone. -/
theorem decOK_any (neg : Bool) (D : List UInt8) (ex : Int) (hl : D.length ≤ 9223372036854775806) : ∃ b : Bool, (b = true → Shape neg D ex) ∧ ∀ w, Calls Try.prog 12 #[.bool neg, .string (str D), .int .i64 ex] w fun e w' => e = .returned (.bool b) ∧ w = w' := by
  by_cases hD : D = []
  · refine ⟨_, fun h => ?_, fun w => decOK_empty neg D ex hD w⟩
    simp at h
    subst hD
    exact ⟨Dig.nil, fun _ => h, fun c r e => (by cases e), fun h => (by simp at h)⟩
  · have hp : 0 < D.length := List.length_pos_iff.2 hD
    refine ⟨_, fun h => ?_, fun w => decOK_some neg D ex hp hl _ rfl w⟩
    simp only [Bool.and_eq_true, Bool.not_eq_true', beq_eq_false_iff_ne] at h
    obtain ⟨⟨h1, h2⟩, h3⟩ := h
    refine ⟨fun c hc => isD_iff.1 (List.all_eq_true.1 h3 c hc), fun e => absurd e hD, fun c r e => ?_, fun _ => by omega⟩
    subst e
    have : ((c :: r)[0].toNat : Int) ≠ 48 := h1
    simp at this
    omega

theorem bytesX_yes (neg : Bool) (s : ByteArray) (ex dec : Int) (h : s.size ≤ 1048576) (w : World) :
    Calls Try.prog 20 #[.bool neg, .string s, .int .i64 ex, .int .i64 dec] w fun e w' => e = .returned (.bool true) ∧ w = w' := by
  go_enter Try.func20, Try.ntmps20
  go_wp2
  go_ret
  exact ⟨rfl, rfl⟩
theorem bytesX_no (neg : Bool) (s : ByteArray) (ex dec : Int) (h : 1048576 < s.size) (w : World) :
    Calls Try.prog 20 #[.bool neg, .string s, .int .i64 ex, .int .i64 dec] w fun e w' => e = .returned (.bool false) ∧ w = w' := by
  go_enter Try.func20, Try.ntmps20
  go_wp2
  go_ret
  exact ⟨rfl, rfl⟩
theorem bytesR_yes (neg : Bool) (s : ByteArray) (ex dec : Int) (h : s.size ≤ 1048576) (w : World) :
    Calls Try.prog 11 #[.bool neg, .string s, .int .i64 ex, .int .i64 dec] w fun e w' => e = .returned (.bool true) ∧ w = w' := by
  go_enter Try.func11, Try.ntmps11
  go_wp2
  go_ret
  exact ⟨rfl, rfl⟩
theorem bytesR_no (neg : Bool) (s : ByteArray) (ex dec : Int) (h : 1048576 < s.size) (w : World) :
    Calls Try.prog 11 #[.bool neg, .string s, .int .i64 ex, .int .i64 dec] w fun e w' => e = .returned (.bool false) ∧ w = w' := by
  go_enter Try.func11, Try.ntmps11
  go_wp2
  go_ret
  exact ⟨rfl, rfl⟩
end Go.Proofs.Qxb6601144a
