/-
  DERIVED. The walk of FnScanNumberMatchesSplitGrammar.
-/
import Derived.Test.Qxb6601144aModel
namespace Go.Proofs.Qxb6601144a
open Go.RowKit Go.Joins

theorem len_data (s : ByteArray) : s.data.toList.length = s.size := by rw [Lib.size_eq]

theorem model_any (s : ByteArray) (hs : s.size ≤ 9223372036854775806) (w : World) (r : Bool × List UInt8 × List UInt8 × Int) (hr : model s.data.toList = r) :
    Calls Try.prog 9 #[.string s] w fun e w' => e = .returned (.tuple #[.bool r.1, .string (str r.2.1), .string (str r.2.2.1), .int .i64 r.2.2.2]) ∧ w = w' := by
  obtain ⟨okb, A, F, x⟩ := r
  have h1 := mant_le s.data.toList
  have h2 := len_data s
  refine model_core s hs w okb A F x hr (epos s.data.toList) rfl (str (mant s.data.toList)) (str (exs s.data.toList)) (hasE s.data.toList) ⟨rfl, rfl, rfl⟩ ?_ ?_ (str (m1 s.data.toList)) rfl ?_ _ rfl _ _ ⟨rfl, rfl⟩ _ _ ⟨rfl, rfl⟩ ?_
  · rw [str_size]; omega
  · rw [str_size]; unfold exs; rw [List.length_drop]; omega
  · rw [str_size]; unfold m1; rw [List.length_drop]; omega
  · rw [List.length_drop]; unfold exs; rw [List.length_drop]; omega

theorem bytesG_yes (s : ByteArray) (h : s.size ≤ 1048576) (w : World) :
    Calls Try.prog 7 #[.string s] w fun e w' => e = .returned (.bool true) ∧ w = w' := by
  go_enter Try.func7, Try.ntmps7
  go_wp2
  go_ret
  exact ⟨rfl, rfl⟩
theorem bytesG_no (s : ByteArray) (h : 1048576 < s.size) (w : World) :
    Calls Try.prog 7 #[.string s] w fun e w' => e = .returned (.bool false) ∧ w = w' := by
  go_enter Try.func7, Try.ntmps7
  go_wp2
  go_ret
  exact ⟨rfl, rfl⟩

/-- The plain law in the walk's words. -/
theorem zz_form (s : ByteArray) (hs : s.size ≤ 9223372036854775806) : ∃ (ok : Bool) (a b : ByteArray) (x : Int) (a' b' : ByteArray) (x' : Int), (ok = true → a = a' ∧ b = b' ∧ x = x') ∧
    (∀ w, Calls Try.prog 8 #[.string s] w fun e w' => e = .returned (.tuple #[.bool (ng s.data.toList), .string a, .string b, .int .i64 x, .bool ok]) ∧ Below w.heap.size w w') ∧
    (∀ w, Calls Try.prog 9 #[.string s] w fun e w' => e = .returned (.tuple #[.bool ok, .string a', .string b', .int .i64 x']) ∧ w = w') := by
  obtain ⟨g1, g2⟩ := gram s.data.toList
  refine ⟨(scan s.data.toList).ok, str (scan s.data.toList).int, str (scan s.data.toList).frac, (scan s.data.toList).exp, str (model s.data.toList).2.1, str (model s.data.toList).2.2.1, (model s.data.toList).2.2.2, ?_, fun w => zzscan_any s hs w, fun w => ?_⟩
  · intro h
    rw [g1] at h
    obtain ⟨k1, k2, k3⟩ := g2 h
    exact ⟨by rw [k1], by rw [k2], k3⟩
  · rw [g1]
    exact model_any s hs w _ rfl

set_option maxHeartbeats 1000000 in
set_option maxRecDepth 10000 in
theorem walkG (s : ByteArray) (w : World) :
    Calls Try.prog 3 #[.string s] w fun e w' => e = .returned (.bool true) ∧ Below w.heap.size w w' := by
  by_cases hlen : s.size ≤ 1048576
  · have hB := bytesG_yes s hlen w
    obtain ⟨ok, a, b, x, a', b', x', hE, C1, C2⟩ := zz_form s (by omega)
    have step : ∀ (hs : (s.size = 0 ∧ ng s.data.toList = false) ∨ ∃ h : 0 < s.size, ((s[0].toNat : Int) == 45) = ng s.data.toList),
        Calls Try.prog 3 #[.string s] w fun e w' => e = .returned (.bool true) ∧ Below w.heap.size w w' := by
      intro hs
      generalize ng s.data.toList = neg at C1 hs
      cases ok
      · clear hE
        rcases hs with ⟨hz, hb⟩ | ⟨hz, hb⟩
        · subst hb
          go_enter Try.func3, Try.ntmps3
          go_wp2_with (first | (go_at_call 7; refine hB.mono ?_; rintro e w' ⟨rfl, rfl⟩) | (go_at_call 8; refine (C1 _).mono ?_; rintro e w1 ⟨rfl, hb1⟩) | (go_at_call 9; refine (C2 _).mono ?_; rintro e w' ⟨rfl, rfl⟩))
          go_ret
          exact ⟨rfl, hb1⟩
        · cases neg
          all_goals
            go_enter Try.func3, Try.ntmps3
            go_wp2_with (first | (go_at_call 7; refine hB.mono ?_; rintro e w' ⟨rfl, rfl⟩) | (go_at_call 8; refine (C1 _).mono ?_; rintro e w1 ⟨rfl, hb1⟩) | (go_at_call 9; refine (C2 _).mono ?_; rintro e w' ⟨rfl, rfl⟩))
            go_ret
            exact ⟨rfl, hb1⟩
      · obtain ⟨rfl, rfl, rfl⟩ := hE rfl
        clear hE
        rcases hs with ⟨hz, hb⟩ | ⟨hz, hb⟩
        · subst hb
          go_enter Try.func3, Try.ntmps3
          go_wp2_with (first | (go_at_call 7; refine hB.mono ?_; rintro e w' ⟨rfl, rfl⟩) | (go_at_call 8; refine (C1 _).mono ?_; rintro e w1 ⟨rfl, hb1⟩) | (go_at_call 9; refine (C2 _).mono ?_; rintro e w' ⟨rfl, rfl⟩))
          go_ret
          exact ⟨by simp, hb1⟩
        · cases neg
          all_goals
            go_enter Try.func3, Try.ntmps3
            go_wp2_with (first | (go_at_call 7; refine hB.mono ?_; rintro e w' ⟨rfl, rfl⟩) | (go_at_call 8; refine (C1 _).mono ?_; rintro e w1 ⟨rfl, hb1⟩) | (go_at_call 9; refine (C2 _).mono ?_; rintro e w' ⟨rfl, rfl⟩))
            go_ret
            exact ⟨by simp, hb1⟩
    refine step ?_
    rcases h : s.data.toList with _ | ⟨c, r⟩
    · left
      have := at_end (s := s) (n := 0) h
      exact ⟨by omega, rfl⟩
    · right
      obtain ⟨hn, hc⟩ := at_pos (s := s) (n := 0) h
      subst hc
      exact ⟨hn, rfl⟩
  · have hB := bytesG_no s (by omega) w
    clear hlen
    go_enter Try.func3, Try.ntmps3
    go_wp2_with (go_at_call 7; refine hB.mono ?_; rintro e w' ⟨rfl, rfl⟩)
    go_ret
    exact ⟨rfl, Below.refl _ _⟩
end Go.Proofs.Qxb6601144a
