/-
  DERIVED. b1Zeros, b1Cmp, b1Decrement and increment, walked.
-/
import Derived.Test.Qxb6601144aIncDec
import Derived.Deep.QuietTactic
import Derived.BigQuiet
namespace Go.Proofs.Qxb6601144a
open Go.RowKit Go.Joins

theorem getD_at {l : List UInt8} {k : Nat} (h : k < l.length) : l.getD k 0 = l[k] := by rw [List.getD_eq_getElem?_getD, List.getElem?_eq_getElem h]; rfl

/-! ### b1Zeros -/
theorem zeros_none (n : Int) (h : n ≤ 0) (w : World) : Calls Try.prog 17 #[.int .i64 n] w fun e w' => e = .returned (.string (str [])) ∧ Below w.heap.size w w' := by
  go_enter Try.func17, Try.ntmps17
  go_wp2
  go_ret
  exact ⟨rfl, Below.refl _ _⟩

def zfill (n k : Nat) : List UInt8 := zer k ++ List.replicate (n - k) 0
theorem zfill_length {n k : Nat} (h : k ≤ n) : (zfill n k).length = n := by simp [zfill, zer]; omega
theorem zfill_set {n k : Nat} (h : k < n) : (zfill n k).set k 48 = zfill n (k + 1) := by
  unfold zfill
  rw [List.set_append_right _ _ (by simp [zer])]
  have e1 : n - k = (n - (k + 1)) + 1 := by omega
  have e2 : k - (zer k).length = 0 := by simp [zer]
  have e3 : zer (k + 1) = zer k ++ [48] := by unfold zer; exact List.replicate_succ'
  rw [e2, e1, List.replicate_succ, List.set_cons_zero, e3, List.append_assoc]
  rfl
theorem zfill_all (n : Nat) : zfill n n = zer n := by simp [zfill]

set_option maxHeartbeats 1000000 in
theorem zeros_some (n : Nat) (h0 : 0 < n) (h : n ≤ 1000000) (w : World) : Calls Try.prog 17 #[.int .i64 (n : Int)] w fun e w' => e = .returned (.string (str (zer n))) ∧ Below w.heap.size w w' := by
  have hmk := make_run n (by omega) (by omega)
  have hst := Bts.made w n
  go_enter Try.func17, Try.ntmps17
  go_wp2
  go_loopw [4] (fun i wr => ∃ k : Nat, k ≤ n ∧ i = .int .i64 k ∧ Bts wr w.heap.size (zfill n k) n ∧ Below w.heap.size w wr) (fun i _ => n - (intOf i).toNat)
  case atStart => exact ⟨0, Nat.zero_le _, rfl, hst, (Below.refl _ _).alloc (Nat.le_refl _) _⟩
  case round =>
    obtain ⟨k, hk, rfl, hb, hbel⟩ := hrel
    clear hst hmk
    by_cases hlt : k < n
    · have hlt' : k < (zfill n k).length := by rw [zfill_length hk]; exact hlt
      obtain ⟨v, hc⟩ := Option.isSome_iff_exists.1 (hb.spare (i := k) hlt)
      have hf := hb.free (i := k) hlt
      have hnx := hb.set hlt' 48
      rw [zfill_set hlt] at hnx
      have hbel2 := hbel.setCell (p := ⟨w.heap.size, k, none⟩) (Nat.le_refl _) (.int .u8 (((48 : UInt8).toNat : Nat) : Int))
      clear hb hlt'
      go_wp2
      go_roundw
      case rel => exact ⟨k + 1, by omega, by go_num, hnx, hbel2⟩
      case measure => simp [intOf]; omega
    · have hkn : k = n := by omega
      subst hkn
      rw [zfill_all] at hb
      have hrun := hb.str_run k
      rw [zer_length] at hrun
      clear hb
      go_wp2
      go_ret
      exact ⟨rfl, hbel⟩

theorem zeros_any (n : Int) (h : n ≤ 1000000) (w : World) : Calls Try.prog 17 #[.int .i64 n] w fun e w' => e = .returned (.string (str (zer n.toNat))) ∧ Below w.heap.size w w' := by
  by_cases h0 : n ≤ 0
  · have e : n.toNat = 0 := by omega
    rw [e]
    exact zeros_none n h0 w
  · have hz := zeros_some n.toNat (by omega) (by omega) w
    rw [Int.toNat_of_nonneg (by omega)] at hz
    exact hz

/-! ### b1Cmp -/
set_option maxHeartbeats 2000000 in
theorem cmp_any (a b : ByteArray) (r : Int) (hr : cmpL a.data.toList b.data.toList = r) (_ha : a.size ≤ 9223372036854775806) (_hb : b.size ≤ 9223372036854775806) (w : World) :
    Calls Try.prog 18 #[.string a, .string b] w fun e w' => e = .returned (.int .i64 r) ∧ Below w.heap.size w w' := by
  have hr' := hr
  unfold cmpL at hr'
  have la : a.data.toList.length = a.size := by rw [Lib.size_eq]
  have lb : b.data.toList.length = b.size := by rw [Lib.size_eq]
  rw [la, lb] at hr'
  by_cases h1 : a.size < b.size
  · rw [if_pos h1] at hr'
    subst hr'
    have b1 : ((a.size : Int) != (b.size : Int)) = true := by simp; omega
    clear hr la lb
    go_enter Try.func18, Try.ntmps18
    go_wp2
    go_ret
    exact ⟨rfl, Below.refl _ _⟩
  · rw [if_neg h1] at hr'
    by_cases h2 : b.size < a.size
    · rw [if_pos h2] at hr'
      subst hr'
      have b1 : ((a.size : Int) != (b.size : Int)) = true := by simp; omega
      clear hr la lb
      go_enter Try.func18, Try.ntmps18
      go_wp2
      go_ret
      exact ⟨rfl, Below.refl _ _⟩
    · rw [if_neg h2] at hr'
      have heq : a.size = b.size := by omega
      have b1 : ((a.size : Int) != (b.size : Int)) = false := by simp; omega
      have HR : Hid (lexc a.data.toList b.data.toList = r) := hr'
      have HE : Hid (a.size = b.size) := heq
      clear hr hr' la lb h1 h2 heq
      go_enter Try.func18, Try.ntmps18
      go_wp2
      go_loopw [5] (fun i wr => ∃ k : Nat, k ≤ a.size ∧ i = .int .i64 k ∧ Below w.heap.size w wr ∧ Hid (lexc (a.data.toList.drop k) (b.data.toList.drop k) = r)) (fun i _ => a.size - (intOf i).toNat)
      case atStart => exact ⟨0, Nat.zero_le _, rfl, Below.refl _ _, HR⟩
      case round =>
        obtain ⟨k, hk, rfl, hbel, HK⟩ := hrel
        clear HR
        by_cases hlt : k < a.size
        · have hltb : k < b.size := by have := HE.out; omega
          have hkk := HK.out
          rw [drop_cons a k hlt, drop_cons b k hltb, lexc] at hkk
          have i1 : (k : Int) < (a.size : Int) := by omega
          have i2 : (k : Int) < (b.size : Int) := by omega
          by_cases he : a[k].toNat = b[k].toNat
          · rw [if_pos he] at hkk
            have HK2 : Hid (lexc (a.data.toList.drop (k + 1)) (b.data.toList.drop (k + 1)) = r) := hkk
            have b2 : ((a[k].toNat : Int) != (b[k].toNat : Int)) = false := by simp; omega
            clear hkk HK he
            go_wp2
            go_quiet (fail)
            go_wp2
            go_roundw
            case rel => exact ⟨k + 1, by omega, by go_num, hbel.trans (below_draws _ _ _), HK2⟩
            case measure => simp [intOf]; omega
          · rw [if_neg he] at hkk
            have b2 : ((a[k].toNat : Int) != (b[k].toNat : Int)) = true := by simp; omega
            by_cases hl : a[k].toNat < b[k].toNat
            · rw [if_pos hl] at hkk
              subst hkk
              have hl' : (a[k].toNat : Int) < (b[k].toNat : Int) := by omega
              clear HK he hl
              go_wp2
              go_quiet (fail)
              go_wp2
              go_quiet (fail)
              go_wp2
              go_ret
              exact ⟨rfl, (hbel.trans (below_draws _ _ _)).trans (below_draws _ _ _)⟩
            · rw [if_neg hl] at hkk
              subst hkk
              have hl' : ¬ (a[k].toNat : Int) < (b[k].toNat : Int) := by omega
              clear HK he hl
              go_wp2
              go_quiet (fail)
              go_wp2
              go_quiet (fail)
              go_wp2
              go_ret
              exact ⟨rfl, (hbel.trans (below_draws _ _ _)).trans (below_draws _ _ _)⟩
        · have hkk := HK.out
          rw [drop_end (s := a) (by omega)] at hkk
          have hr0 : (0 : Int) = r := hkk
          subst hr0
          clear hkk HK
          go_wp2
          go_ret
          exact ⟨rfl, hbel⟩
end Go.Proofs.Qxb6601144a
