/-
  DERIVED. The walk of FnEscapedUnitMatchesHexModel.
-/
import Derived.Test.Qxb6600429aDoorModel
import Derived.Test.Qxb6600429aDoorUnit
namespace Go.Proofs.Qxb6600429aDoor
open Go.RowKit Go.Joins

theorem bytes1_yes (a : Option Addr) (n cap : Nat) (h : n ≤ 1048576) (w : World) :
    Calls Tryd.prog 6 #[.slice a n cap] w fun e w' => e = .returned (.bool true) ∧ w' = w := by
  go_enter Tryd.func6, Tryd.ntmps6
  go_wp2
  go_ret
  exact ⟨rfl, rfl⟩
theorem bytes1_no (a : Option Addr) (n cap : Nat) (h : 1048576 < n) (w : World) :
    Calls Tryd.prog 6 #[.slice a n cap] w fun e w' => e = .returned (.bool false) ∧ w' = w := by
  go_enter Tryd.func6, Tryd.ntmps6
  go_wp2
  go_ret
  exact ⟨rfl, rfl⟩

set_option maxHeartbeats 1000000 in
theorem walkA (a : Option Addr) (n cap : Nat) (zs : List Int) (w : World) (hn : n = zs.length) (h : Row w (.slice a n cap) zs) (he : Err w) :
    Calls Tryd.prog 3 #[.slice a n cap] w fun e w' => e = .returned (.bool true) ∧ Below w.heap.size w w' := by
  by_cases hlen : n ≤ 1048576
  · have hB := bytes1_yes a n cap hlen w
    have hC := clone_any _ zs (by omega) w h
    have HN : Hid (n = zs.length) := hn
    clear hn
    go_enter Tryd.func3, Tryd.ntmps3
    go_wp2_with (first | (go_at_call 6; refine hB.mono ?_; rintro e w' ⟨rfl, rfl⟩) | (go_at_call 7; refine hC.mono ?_))
    rintro e w1 ⟨v', rfl, hrow, hb1⟩
    have he1 := he.later hb1
    have hL := HN.out
    have hZ := zz_any v' zs (by omega) w1 hrow he1
    clear hC h hL
    generalize hu : unit zs = u at hZ
    go_wp2_with (go_at_call 8; refine hZ.mono ?_)
    rintro e w2 ⟨rfl, hb2⟩
    have hM := model_any v' zs (by have := HN.out; omega) w2 (hrow.later hb2)
    rw [hu] at hM
    clear hZ hu
    go_wp2_with (go_at_call 9; refine hM.mono ?_; rintro e w' ⟨rfl, rfl⟩)
    go_ret
    exact ⟨by simp, hb1.trans (hb2.mono hb1.size)⟩
  · have hB := bytes1_no a n cap (by omega) w
    clear h hn hlen
    go_enter Tryd.func3, Tryd.ntmps3
    go_wp2_with (go_at_call 6; refine hB.mono ?_; rintro e w' ⟨rfl, rfl⟩)
    go_ret
    exact ⟨rfl, Below.refl _ _⟩
end Go.Proofs.Qxb6600429aDoor
