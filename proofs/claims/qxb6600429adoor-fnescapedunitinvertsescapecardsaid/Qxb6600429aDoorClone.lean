/-
  DERIVED. zzCloneBytes: a fresh copy; the bounds on lengths; hexDigitValue; escapeModel.
-/
import Derived.Test.Qxb6600429aDoorRows
import Derived.Test.Qxb6600429aDoorPlain
import Derived.Test.Qxb6600429aDoorMem
namespace Go.Proofs.Qxb6600429aDoor
open Go.RowKit Go.Joins

theorem info5 : (Tryd.prog.info? 5).map (fun i => (i.zero, i.size, i.bytes)) = some (some (.int .u8 0), 1, 1) := by kernel_rfl

theorem make_run (n : Nat) (h : n ≤ 9223372036854775807) (hb : n ≤ 281474976710656) (w : World) :
    (Instr.makeSlice 22 (.int .i64 (n : Int)) (.int .i64 (n : Int))).run Tryd.prog w = .ok (.slice (some ⟨w.heap.size, 0, none⟩) n n) (w.alloc (.cells (madeCells #[.int .u8 0] n) 5)) :=
  run_make_row' 22 5 (.int .u8 0) 1 Tryd.underlying22 info5 rfl .i64 .i64 n (by omega) h w

theorem eqnil (w : World) (a : Option Addr) (n c : Nat) : (binOp .eql 22 (.slice a n c) (.slice none 0 0)).run Tryd.prog w = .ok (.bool a.isNone) w :=
  Lib.run_eql_slice_nil w 22 5 a n c 0 0 Tryd.underlying22
theorem ret_int {k : IntKind} {a b : Int} (h : a = b) : Ending.returned (.int k a) = .returned (.int k b) := by rw [h]

set_option maxHeartbeats 1000000 in
theorem clone_nil (len cap : Nat) (w : World) :
    Calls Tryd.prog 7 #[.slice none len cap] w fun e w' => e = .returned (.slice none 0 0) ∧ w' = w := by
  have hq := eqnil
  go_enter Tryd.func7, Tryd.ntmps7
  go_wp2
  go_ret
  exact ⟨rfl, rfl⟩

set_option maxHeartbeats 1000000 in
theorem clone_some (b off cap : Nat) (T : List Int) (hT : T.length ≤ 1048576) (w : World) (hb : b < w.heap.size)
    (hc : ∀ i, i < T.length → w.cell? ⟨b, off + i, none⟩ = some (.int .u8 (T.getD i 0))) :
    Calls Tryd.prog 7 #[.slice (some ⟨b, off, none⟩) T.length cap] w fun e w' => e = .returned (.slice (some ⟨w.heap.size, 0, none⟩) T.length T.length) ∧ Buf 5 w' w.heap.size T ∧ Below w.heap.size w w' := by
  obtain ⟨n, hn⟩ : ∃ n, n = T.length := ⟨_, rfl⟩
  have hmk := make_run n (by omega) (by omega)
  have hst := Buf.fillStart 5 w T
  rw [← hn] at hst hT hc ⊢
  have HN : Hid (n = T.length) := hn
  clear hn
  have hq := eqnil
  go_enter Tryd.func7, Tryd.ntmps7
  go_wp2
  go_loopw [4] (fun i wr => ∃ k : Nat, k ≤ n ∧ i = .int .i64 k ∧ Buf 5 wr w.heap.size (fill T k) ∧ Below w.heap.size w wr) (fun i _ => n - (intOf i).toNat)
  case atStart => exact ⟨0, Nat.zero_le _, rfl, hst, (Below.refl _ _).alloc (Nat.le_refl _) _⟩
  case round =>
    obtain ⟨k, hk, rfl, hbuf, hbel⟩ := hrel
    have hN := HN.out
    by_cases hlt : k < n
    · have hx : wr.cell? ⟨b, off + k, none⟩ = some (.int .u8 (T.getD k 0)) := (hbel.cell (p := ⟨b, off + k, none⟩) hb).trans (hc k hlt)
      have hy := hbuf.fillCell (k := k) (by omega)
      have hf := hbuf.free k
      have hnx := hbuf.fillStep (k := k) (by omega) (T.getD k 0) rfl
      clear hN hc
      go_wp2
      go_roundw
      case rel => exact ⟨k + 1, by omega, by go_num, hnx, hbel.setCell (Nat.le_refl _) _⟩
      case measure => simp [intOf]; omega
    · have hkn : k = n := by omega
      have hfin : Buf 5 wr w.heap.size T := by
        rw [hkn, hN, fill_all] at hbuf; exact hbuf
      clear hN hc hst hmk
      go_wp2
      go_ret
      exact ⟨rfl, hfin, hbel⟩

/-- An empty slice that is not nil. -/
theorem clone_empty (a : Addr) (cap : Nat) (w : World) :
    Calls Tryd.prog 7 #[.slice (some a) 0 cap] w fun e w' => e = .returned (.slice (some ⟨w.heap.size, 0, none⟩) 0 0) ∧ Buf 5 w' w.heap.size [] ∧ Below w.heap.size w w' := by
  have hmk : ∀ w, (Instr.makeSlice 22 (.int .i64 0) (.int .i64 0)).run Tryd.prog w = .ok (.slice (some ⟨w.heap.size, 0, none⟩) 0 0) (w.alloc (.cells (madeCells #[.int .u8 0] 0) 5)) := make_run 0 (by omega) (by omega)
  have hst := Buf.fillStart 5 w []
  have hq := eqnil
  go_enter Tryd.func7, Tryd.ntmps7
  go_wp2
  refine wp_loop_rounds 1 ?_
  rw [rounds_succ]
  go_wp2
  go_ret
  exact ⟨rfl, hst, (Below.refl _ _).alloc (Nat.le_refl _) _⟩

theorem clone_any (v : Value) (T : List Int) (hT : T.length ≤ 1048576) (w : World) (h : Row w v T) :
    Calls Tryd.prog 7 #[v] w fun e w' => ∃ v', e = .returned v' ∧ Row w' v' T ∧ Below w.heap.size w w' := by
  obtain ⟨a, cap, rfl, hcp, hc, hz⟩ := h
  by_cases hne : T = []
  · subst hne
    cases a with
    | none => exact (clone_nil 0 cap w).mono fun e w' ⟨he, hw⟩ => ⟨_, he, ⟨none, 0, rfl, Nat.le_refl _, fun h => absurd rfl h, hz⟩, by subst hw; exact Below.refl _ _⟩
    | some a => exact (clone_empty a cap w).mono fun e w' ⟨he, hb, hw⟩ => ⟨_, he, hb.row hz (Nat.le_refl _), hw⟩
  · obtain ⟨b, off, rfl, hlt, hcell⟩ := hc hne
    exact (clone_some b off cap T hT w hlt hcell).mono fun e w' ⟨he, hb, hw⟩ => ⟨_, he, hb.row hz (Nat.le_refl _), hw⟩

/-! ### The model of the escape -/
set_option maxHeartbeats 1000000 in
theorem hexDigitValue_any (c : Int) (h0 : 0 ≤ c) (h1 : c ≤ 255) (w : World) :
    Calls Tryd.prog 14 #[.int .u8 c] w fun e w' => e = .returned (.int .i32 (hexd c)) ∧ w' = w := by
  by_cases a : 48 ≤ c ∧ c ≤ 57
  · rw [hexd_09 a]
    obtain ⟨a1, a2⟩ := a
    go_enter Tryd.func14, Tryd.ntmps14
    go_wp2
    go_ret
    exact ⟨rfl, rfl⟩
  · by_cases b : 97 ≤ c ∧ c ≤ 102
    · rw [hexd_af b]
      obtain ⟨a1, a2⟩ := b
      clear a
      go_enter Tryd.func14, Tryd.ntmps14
      go_wp2
      go_ret
      exact ⟨ret_int (by omega), rfl⟩
    · by_cases d : 65 ≤ c ∧ c ≤ 70
      · rw [hexd_AF d]
        obtain ⟨a1, a2⟩ := d
        clear a b
        go_enter Tryd.func14, Tryd.ntmps14
        go_wp2
        go_ret
        exact ⟨ret_int (by omega), rfl⟩
      · rw [hexd_no a b d]
        go_enter Tryd.func14, Tryd.ntmps14
        go_wp2
        all_goals go_ret
        all_goals exact ⟨rfl, rfl⟩
end Go.Proofs.Qxb6600429aDoor
