/-
  DERIVED. The walk of FnFixedExactReadsBackThroughScanNumber, at every argument.
-/
import Derived.Test.Qxb6601144aLawX
namespace Go.Proofs.Qxb6601144a
open Go.RowKit Go.Joins

set_option maxHeartbeats 1000000 in
set_option maxRecDepth 10000 in
theorem walkX (neg : Bool) (s : ByteArray) (ex dec : Int) (he0 : -9223372036854775808 ≤ ex) (he1 : ex ≤ 9223372036854775807) (hd0 : -9223372036854775808 ≤ dec) (hd1 : dec ≤ 9223372036854775807) (w : World) :
    Calls Try.prog 6 #[.bool neg, .string s, .int .i64 ex, .int .i64 dec] w fun e w' => e = .returned (.bool true) ∧ Below w.heap.size w w' := by
  by_cases hlen : s.size ≤ 1048576
  case neg =>
    have hB := bytesX_no neg s ex dec (by omega) w
    clear hlen
    go_enter Try.func6, Try.ntmps6
    go_wp2_with (go_at_call 20; refine hB.mono ?_; rintro e w' ⟨rfl, rfl⟩)
    go_ret
    exact ⟨rfl, Below.refl _ _⟩
  have hB := bytesX_yes neg s ex dec hlen w
  by_cases h1 : s.size ≤ 65536
  case neg =>
    have h1' : (65536 : Int) < (s.size : Int) := by omega
    go_enter Try.func6, Try.ntmps6
    go_wp2_with (go_at_call 20; refine hB.mono ?_; rintro e w' ⟨rfl, rfl⟩)
    go_ret
    exact ⟨rfl, Below.refl _ _⟩
  have h1' : (s.size : Int) ≤ 65536 := by omega
  by_cases h2 : -65536 ≤ ex
  case neg =>
    have h2' : ex < -65536 := by omega
    go_enter Try.func6, Try.ntmps6
    go_wp2_with (go_at_call 20; refine hB.mono ?_; rintro e w' ⟨rfl, rfl⟩)
    go_ret
    exact ⟨rfl, Below.refl _ _⟩
  by_cases h3 : ex ≤ 65536
  case neg =>
    have h3' : 65536 < ex := by omega
    go_enter Try.func6, Try.ntmps6
    go_wp2_with (go_at_call 20; refine hB.mono ?_; rintro e w' ⟨rfl, rfl⟩)
    go_ret
    exact ⟨rfl, Below.refl _ _⟩
  by_cases h4 : 0 ≤ dec
  case neg =>
    have h4' : dec < 0 := by omega
    go_enter Try.func6, Try.ntmps6
    go_wp2_with (go_at_call 20; refine hB.mono ?_; rintro e w' ⟨rfl, rfl⟩)
    go_ret
    exact ⟨rfl, Below.refl _ _⟩
  by_cases h5 : dec ≤ 65536
  case neg =>
    have h5' : 65536 < dec := by omega
    go_enter Try.func6, Try.ntmps6
    go_wp2_with (go_at_call 20; refine hB.mono ?_; rintro e w' ⟨rfl, rfl⟩)
    go_ret
    exact ⟨rfl, Below.refl _ _⟩
  obtain ⟨n, rfl⟩ : ∃ n : Nat, dec = (n : Int) := ⟨dec.toNat, by omega⟩
  obtain ⟨b, hb, hOK⟩ := decOK_any neg s.data.toList ex (by rw [← Lib.size_eq]; omega)
  rw [str_of] at hOK
  cases b with
  | false =>
    clear hb
    go_enter Try.func6, Try.ntmps6
    go_wp2_with (first | (go_at_call 20; refine hB.mono ?_; rintro e w' ⟨rfl, rfl⟩) | (go_at_call 12; refine (hOK _).mono ?_; rintro e w' ⟨rfl, rfl⟩))
    go_ret
    exact ⟨rfl, Below.refl _ _⟩
  | true =>
    by_cases h6 : 0 ≤ ex + (n : Int)
    · have := walkX_core neg s.data.toList ex n (hb rfl) (by rw [← Lib.size_eq]; omega) h2 h3 (by omega) h6 w (by rw [str_of]; exact hOK)
      rw [str_of] at this
      exact this
    · have h6' : ex + (n : Int) < 0 := by omega
      clear hb
      go_enter Try.func6, Try.ntmps6
      go_wp2_with (first | (go_at_call 20; refine hB.mono ?_; rintro e w' ⟨rfl, rfl⟩) | (go_at_call 12; refine (hOK _).mono ?_; rintro e w' ⟨rfl, rfl⟩))
      go_ret
      exact ⟨rfl, Below.refl _ _⟩
end Go.Proofs.Qxb6601144a
