/-
  DERIVED. The closure 'digits' of scanNumber: the digits ahead; the place behind them.
-/
import Derived.Test.Qxb6601144aRows
import Derived.Test.Qxb6601144aPlain
import Derived.WalkSpells
import Derived.WalkLawsBesides
import Derived.Deep.LoopGhost
namespace Go.Proofs.Qxb6601144a
open Go.RowKit Go.Joins

theorem setCell_twice (w : World) (b o : Nat) (u v : Value) : (w.setCell ⟨b, o, none⟩ u).setCell ⟨b, o, none⟩ v = w.setCell ⟨b, o, none⟩ v := by
  unfold World.setCell
  congr 1
  apply Array.ext_getElem?
  intro k
  simp only [Array.getElem?_modify]
  by_cases hk : b = k
  · subst hk
    simp only [if_true]
    cases w.heap[b]? with
    | none => rfl
    | some x => cases x <;> simp
  · simp [hk]

theorem setCell_id {w : World} {b o : Nat} {v : Value} (h : w.cell? ⟨b, o, none⟩ = some v) : w.setCell ⟨b, o, none⟩ v = w := by
  unfold World.setCell
  have e : (w.heap.modify b fun x => match x with
      | .cells c elem frozen => .cells (if (none : Option Nat).isSome then c else c.setIfInBounds o v) elem frozen
      | o => o) = w.heap := by
    apply Array.ext_getElem?
    intro k
    simp only [Array.getElem?_modify]
    by_cases hk : b = k
    · subst hk
      simp only [if_true]
      unfold World.cell? at h
      cases hx : w.heap[b]? with
      | none => rfl
      | some x =>
        cases x with
        | cells c t fr =>
          simp [hx] at h
          simp only [Option.map_some]
          congr 1
          simp
          apply Array.ext_getElem?
          intro i
          rw [Array.getElem?_setIfInBounds]
          split
          · rename_i hoi
            subst hoi
            rw [h]
            split
            · rfl
            · rename_i hlt
              rw [Array.getElem?_eq_none (by omega)] at h
              cases h
          · rfl
        | _ => rfl
    · simp [hk]
  exact congrArg (fun h => ({ w with heap := h } : World)) e

theorem dig_step {s : ByteArray} {k j : Nat} (hkj : k ≤ j) (hlt : j < s.size) (hd : dgs (s.data.toList.drop k) = (s.data.toList.drop k).take (j - k) ++ dgs (s.data.toList.drop j)) (hD : isD s[j] = true) :
    dgs (s.data.toList.drop k) = (s.data.toList.drop k).take (j + 1 - k) ++ dgs (s.data.toList.drop (j + 1)) := by
  have e1 : j + 1 - k = (j - k) + 1 := by omega
  have hl : j - k < (s.data.toList.drop k).length := by simp; omega
  have e2 : (s.data.toList.drop k)[j - k] = s[j] := by
    rw [List.getElem_drop]
    simp [show k + (j - k) = j by omega]
    rfl
  rw [hd, drop_cons s j hlt, dgs_cons_yes hD, e1, List.take_succ_eq_append_getElem hl, List.append_assoc, e2]
  rfl
theorem dig_end {s : ByteArray} {k j n : Nat} {D : List UInt8} (hkj : k ≤ j) (hjs : j ≤ s.size) (hd : dgs (s.data.toList.drop k) = (s.data.toList.drop k).take (j - k) ++ dgs (s.data.toList.drop j))
    (hz : dgs (s.data.toList.drop j) = []) (hD : D = dgs (s.data.toList.drop k) ∧ n = k + D.length) : str D = s.extract k j ∧ n = j := by
  obtain ⟨rfl, rfl⟩ := hD
  rw [hz, List.append_nil] at hd
  refine ⟨by rw [hd, extract_str], ?_⟩
  rw [hd, List.length_take, List.length_drop, ← Lib.size_eq]
  omega
theorem dig_stop {s : ByteArray} {j : Nat} (hlt : j < s.size) (hD : isD s[j] = false) : dgs (s.data.toList.drop j) = [] := by rw [drop_cons s j hlt, dgs_cons_no hD]
theorem dig_out {s : ByteArray} {j : Nat} (h : s.size ≤ j) : dgs (s.data.toList.drop j) = [] := by
  rw [List.drop_eq_nil_of_le (by rw [← Lib.size_eq]; exact h)]; rfl

set_option maxHeartbeats 1000000 in
theorem digits_core (Bi Bs : Nat) (s : ByteArray) (k n : Nat) (D : List UInt8) (HD0 : Hid (D = dgs (s.data.toList.drop k) ∧ n = k + D.length)) (hk : k ≤ s.size) (hs : s.size ≤ 9223372036854775806) (hne : Bs ≠ Bi) (w : World)
    (ci : w.cell? ⟨Bi, 0, none⟩ = some (.int .i64 k)) (fi : w.frozen? ⟨Bi, 0, none⟩ = false) (cs : w.cell? ⟨Bs, 0, none⟩ = some (.string s)) :
    Calls Try.prog 23 #[.pointer (some ⟨Bi, 0, none⟩), .pointer (some ⟨Bs, 0, none⟩)] w fun e w' =>
      e = .returned (.string (str D)) ∧ w.setCell ⟨Bi, 0, none⟩ (.int .i64 (n : Int)) = w' := by
  go_enter Try.func23, Try.ntmps23
  go_wp2
  go_loopg [] (s.size - k) (fun g wr => ∃ j : Nat, k ≤ j ∧ j ≤ s.size ∧ g = s.size - j ∧ wr = w.setCell ⟨Bi, 0, none⟩ (.int .i64 (j : Int)) ∧ Hid (dgs (s.data.toList.drop k) = (s.data.toList.drop k).take (j - k) ++ dgs (s.data.toList.drop j)))
  case atStart => exact ⟨k, Nat.le_refl _, hk, rfl, (setCell_id ci).symm, by show _ = _; simp⟩
  case round =>
    obtain ⟨j, hkj, hjs, hg, rfl, HD⟩ := hrel
    have HG : Hid (gk = s.size - j) := hg
    clear hg
    have hss := setCell_twice w Bi 0
    have ci' : (w.setCell ⟨Bi, 0, none⟩ (.int .i64 (j : Int))).cell? ⟨Bi, 0, none⟩ = some (.int .i64 (j : Int)) := World.cell?_setCell_same _ _ _ ci
    have cs' : (w.setCell ⟨Bi, 0, none⟩ (.int .i64 (j : Int))).cell? ⟨Bs, 0, none⟩ = some (.string s) := by
      rw [World.cell?_setCell_other _ _ _ _ (by intro e; exact hne (congrArg Addr.block e).symm)]; exact cs
    have fi' : (w.setCell ⟨Bi, 0, none⟩ (.int .i64 (j : Int))).frozen? ⟨Bi, 0, none⟩ = false := by rw [World.frozen?_setCell]; exact fi
    have hj1 : (k : Int) ≤ (j : Int) := by omega
    clear ci cs fi
    by_cases hlt : j < s.size
    · by_cases hdig : 48 ≤ (s[j].toNat : Int) ∧ (s[j].toNat : Int) ≤ 57
      · have HN : Hid (dgs (s.data.toList.drop k) = (s.data.toList.drop k).take (j + 1 - k) ++ dgs (s.data.toList.drop (j + 1))) := dig_step hkj hlt HD.out (isD_yes (by omega) (by omega))
        obtain ⟨hd0, hd1⟩ := hdig
        go_wp2
        go_roundg (s.size - (j + 1))
        case measure => have := HG.out; omega
        case rel => exact ⟨j + 1, by omega, by omega, rfl, by first | rfl | (congr 2; omega), HN⟩
      · obtain ⟨e1, e2⟩ := dig_end hkj hjs HD.out (dig_stop hlt (isD_no.2 (by omega))) HD0.out
        subst e2
        have HE : Hid (str D = s.extract k n) := e1
        clear e1
        rcases (show (s[n].toNat : Int) < 48 ∨ 57 < (s[n].toNat : Int) from by omega) with hx | hx
        all_goals
          clear hdig
          go_wp2
          go_ret
          exact ⟨by rw [HE.out]; rfl, rfl⟩
    · obtain ⟨e1, e2⟩ := dig_end hkj hjs HD.out (dig_out (by omega)) HD0.out
      subst e2
      have HE : Hid (str D = s.extract k n) := e1
      clear e1
      go_wp2
      go_ret
      exact ⟨by rw [HE.out]; rfl, rfl⟩
end Go.Proofs.Qxb6601144a
