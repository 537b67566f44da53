/-
  DERIVED. The walk of FnEscapedUnitInvertsEscape.
-/
import Derived.Test.Qxb6600429aDoorUnit
namespace Go.Proofs.Qxb6600429aDoor
open Go.RowKit Go.Joins

/-- The hex digit of d. -/
def hexc (d : Int) (up : Bool) : Int := if d < 10 then 48 + d else if up then 55 + d else 87 + d
theorem hexd_hexc {d : Int} (h0 : 0 ≤ d) (h1 : d ≤ 15) (up : Bool) : hexd (hexc d up) = d := by
  unfold hexc
  by_cases h : d < 10
  · rw [if_pos h, hexd_09 (by omega)]; omega
  · rw [if_neg h]
    cases up
    · simp only [Bool.false_eq_true, if_false]; rw [hexd_af (by omega)]; omega
    · simp only [if_true]; rw [hexd_AF (by omega)]; omega
theorem hexc_bd {d : Int} (h0 : 0 ≤ d) (h1 : d ≤ 15) (up : Bool) : 0 ≤ hexc d up ∧ hexc d up ≤ 255 := by
  unfold hexc
  split
  · omega
  · split <;> omega

theorem unit_written {u : Int} (h0 : 0 ≤ u) (h1 : u ≤ 65535) (c0 c1 c2 c3 : Bool) (ys : List Int) :
    unit ([92, 117, hexc (u / 4096 % 16) c0, hexc (u / 256 % 16) c1, hexc (u / 16 % 16) c2, hexc (u % 16) c3] ++ ys) = u := by
  simp only [List.cons_append, List.nil_append]
  rw [unit_six, if_pos ⟨rfl, rfl⟩]
  have e0 := hexd_hexc (d := u / 4096 % 16) (by omega) (by omega) c0
  have e1 := hexd_hexc (d := u / 256 % 16) (by omega) (by omega) c1
  have e2 := hexd_hexc (d := u / 16 % 16) (by omega) (by omega) c2
  have e3 := hexd_hexc (d := u % 16) (by omega) (by omega) c3
  rw [hexl_cons (by omega), hexl_cons (by omega), hexl_cons (by omega), hexl_cons (by omega), e0, e1, e2, e3, hexl]
  omega

set_option maxHeartbeats 1000000 in
theorem hexchar_any (d : Int) (up : Bool) (h0 : 0 ≤ d) (h1 : d ≤ 15) (w : World) :
    Calls Tryd.prog 11 #[.int .u8 d, .bool up] w fun e w' => e = .returned (.int .u8 (hexc d up)) ∧ w' = w := by
  by_cases h : d < 10
  · have e : hexc d up = 48 + d := by unfold hexc; rw [if_pos h]
    rw [e]
    clear e
    go_enter Tryd.func11, Tryd.ntmps11
    go_wp2
    go_ret
    exact ⟨ret_int (by omega), rfl⟩
  · have e : hexc d up = if up then 55 + d else 87 + d := by unfold hexc; rw [if_neg h]
    rw [e]
    clear e
    cases up
    all_goals
      go_enter Tryd.func11, Tryd.ntmps11
      go_wp2
      go_ret
      exact ⟨ret_int (by first | omega | (simp; omega)), rfl⟩

theorem bytes3_yes (u k : Int) (a : Option Addr) (n cap : Nat) (h : n ≤ 1048576) (w : World) :
    Calls Tryd.prog 10 #[.int .u16 u, .int .u8 k, .slice a n cap] w fun e w' => e = .returned (.bool true) ∧ w = w' := by
  go_enter Tryd.func10, Tryd.ntmps10
  go_wp2
  go_ret
  exact ⟨rfl, rfl⟩
theorem bytes3_no (u k : Int) (a : Option Addr) (n cap : Nat) (h : 1048576 < n) (w : World) :
    Calls Tryd.prog 10 #[.int .u16 u, .int .u8 k, .slice a n cap] w fun e w' => e = .returned (.bool false) ∧ w = w' := by
  go_enter Tryd.func10, Tryd.ntmps10
  go_wp2
  go_ret
  exact ⟨rfl, rfl⟩

theorem wraps_u16 (n : Int) (h0 : 0 ≤ n) (h1 : n < 2 ^ 16) : IntKind.u16.wrap n = n := by
  simp [IntKind.wrap, IntKind.bits, IntKind.signed]; omega
theorem and15 {x : Int} (h0 : 0 ≤ x) (h1 : x ≤ 65535) : bits .and .u16 x 15 = x % 16 := bits_mask .u16 16 (by decide) wraps_u16 4 (by decide) x h0 (by omega)

/-- The row that is written: its head and what follows. -/
def row6 (H0 H1 H2 H3 : Int) (ys : List Int) : List Int := 92 :: 117 :: H0 :: H1 :: H2 :: H3 :: ys
theorem row6_length (H0 H1 H2 H3 : Int) (ys : List Int) : (row6 H0 H1 H2 H3 ys).length = 6 + ys.length := by simp [row6]; omega
theorem two_set (H0 H1 H2 H3 : Int) (ys : List Int) : ((madeCells #[.int .u8 0] (6 + ys.length)).setIfInBounds 0 (.int .u8 92)).setIfInBounds 1 (.int .u8 117) = ((fill (row6 H0 H1 H2 H3 ys) 2).map (Value.int .u8)).toArray := by
  rw [madeCells_bytes, List.setIfInBounds_toArray, List.setIfInBounds_toArray]
  have e : 6 + ys.length = (4 + ys.length) + 1 + 1 := by omega
  rw [e, List.replicate_succ, List.replicate_succ]
  simp [fill, row6]
  omega
theorem made_at (n j : Nat) (h : j < n) : (madeCells #[.int .u8 0] n)[j]? = some (.int .u8 0) := by
  rw [madeCells_bytes]
  simp [h]
theorem row6_2 (H0 H1 H2 H3 : Int) (ys : List Int) : (row6 H0 H1 H2 H3 ys).getD 2 0 = H0 := rfl
theorem row6_3 (H0 H1 H2 H3 : Int) (ys : List Int) : (row6 H0 H1 H2 H3 ys).getD 3 0 = H1 := rfl
theorem row6_4 (H0 H1 H2 H3 : Int) (ys : List Int) : (row6 H0 H1 H2 H3 ys).getD 4 0 = H2 := rfl
theorem row6_5 (H0 H1 H2 H3 : Int) (ys : List Int) : (row6 H0 H1 H2 H3 ys).getD 5 0 = H3 := rfl
theorem row6_tail (H0 H1 H2 H3 : Int) (ys : List Int) (j : Nat) : (row6 H0 H1 H2 H3 ys).getD (6 + j) 0 = ys.getD j 0 := by
  rw [Nat.add_comm]; rfl

theorem hexchar_at (x : Int) (h0 : 0 ≤ x) (h1 : x ≤ 65535) (up : Bool) (H : Int) (hH : H = hexc (x % 16) up) (w : World) :
    Calls Tryd.prog 11 #[.int .u8 (bits .and .u16 x 15 % 256), .bool up] w fun e w' => e = .returned (.int .u8 H) ∧ w = w' := by
  have e : bits .and .u16 x 15 % 256 = x % 16 := by rw [and15 h0 h1]; omega
  rw [e, hH]
  exact (hexchar_any (x % 16) up (by omega) (by omega) w).mono fun _ _ ⟨he, hw⟩ => ⟨he, hw.symm⟩

set_option maxHeartbeats 2000000 in
theorem walkB (u k : Int) (a : Option Addr) (n cap : Nat) (ys : List Int) (w : World) (hu0 : 0 ≤ u) (hu1 : u ≤ 65535) (_hk0 : 0 ≤ k) (_hk1 : k ≤ 255) (hn : n = ys.length) (h : Row w (.slice a n cap) ys) (he : Err w) :
    Calls Tryd.prog 4 #[.int .u16 u, .int .u8 k, .slice a n cap] w fun e w' => e = .returned (.bool true) ∧ Below w.heap.size w w' := by
  by_cases hlen : n ≤ 1048576
  · have hB := bytes3_yes u k a n cap hlen w
    have hC := clone_any _ ys (by omega) w h
    have HN : Hid (n = ys.length) := hn
    clear hn h
    go_enter Tryd.func4, Tryd.ntmps4
    go_wp2_with (first | (go_at_call 10; refine hB.mono ?_; rintro e w' ⟨rfl, rfl⟩) | (go_at_call 7; refine hC.mono ?_))
    rintro e w1 ⟨v1, rfl, hr1, hb1⟩
    have he1 := he.later hb1
    obtain ⟨a1, c1, rfl, hcp1, hq1, hz1⟩ := hr1
    have HQ1 : Hid (ys ≠ [] → ∃ b off, a1 = some ⟨b, off, none⟩ ∧ b < w1.heap.size ∧ ∀ i, i < ys.length → w1.cell? ⟨b, off + i, none⟩ = some (.int .u8 (ys.getD i 0))) := hq1
    have HZ1 : Hid (∀ z ∈ ys, 0 ≤ z ∧ z ≤ 255) := hz1
    clear hC hB hq1 he hz1
    rw [← HN.out] at hcp1 ⊢
    have hmk1 : ∀ w, (Instr.makeSlice 22 (.int .i64 (6 + (n : Int))) (.int .i64 (6 + (n : Int)))).run Tryd.prog w = .ok (.slice (some ⟨w.heap.size, 0, none⟩) (6 + n) (6 + n)) (w.alloc (.cells (madeCells #[.int .u8 0] (6 + n)) 5)) := make_run (6 + n) (by omega) (by omega)
    have hm0 := made_at (6 + n) 0 (by omega)
    have hm1 := made_at (6 + n) 1 (by omega)
    go_wp2
    clear hm0 hm1 hmk1
    obtain ⟨H0, hH0⟩ : ∃ H, H = hexc (u / 4096 % 16) (bits .and .u8 k 1 != 0) := ⟨_, rfl⟩
    obtain ⟨H1, hH1⟩ : ∃ H, H = hexc (u / 256 % 16) (bits .and .u8 k 2 != 0) := ⟨_, rfl⟩
    obtain ⟨H2, hH2⟩ : ∃ H, H = hexc (u / 16 % 16) (bits .and .u8 k 4 != 0) := ⟨_, rfl⟩
    obtain ⟨H3, hH3⟩ : ∃ H, H = hexc (u % 16) (bits .and .u8 k 8 != 0) := ⟨_, rfl⟩
    have K0 := fun w => hexchar_at (u / 4096) (by omega) (by omega) (bits .and .u8 k 1 != 0) H0 hH0 w
    have K1 := fun w => hexchar_at (u / 256) (by omega) (by omega) (bits .and .u8 k 2 != 0) H1 hH1 w
    have K2 := fun w => hexchar_at (u / 16) (by omega) (by omega) (bits .and .u8 k 4 != 0) H2 hH2 w
    have K3 := fun w => hexchar_at u (by omega) (by omega) (bits .and .u8 k 8 != 0) H3 hH3 w
    have HUW : Hid (unit (row6 H0 H1 H2 H3 ys) = u) := by
      have := unit_written hu0 hu1 (bits .and .u8 k 1 != 0) (bits .and .u8 k 2 != 0) (bits .and .u8 k 4 != 0) (bits .and .u8 k 8 != 0) ys
      rw [← hH0, ← hH1, ← hH2, ← hH3] at this
      exact this
    have HBD : Hid (∀ z ∈ row6 H0 H1 H2 H3 ys, 0 ≤ z ∧ z ≤ 255) := by
      intro z hz
      have b0 := hexc_bd (d := u / 4096 % 16) (by omega) (by omega) (bits .and .u8 k 1 != 0)
      have b1 := hexc_bd (d := u / 256 % 16) (by omega) (by omega) (bits .and .u8 k 2 != 0)
      have b2 := hexc_bd (d := u / 16 % 16) (by omega) (by omega) (bits .and .u8 k 4 != 0)
      have b3 := hexc_bd (d := u % 16) (by omega) (by omega) (bits .and .u8 k 8 != 0)
      rw [← hH0] at b0
      rw [← hH1] at b1
      rw [← hH2] at b2
      rw [← hH3] at b3
      simp only [row6, List.mem_cons] at hz
      rcases hz with h | h | h | h | h | h | h
      · omega
      · omega
      · rw [h]; exact b0
      · rw [h]; exact b1
      · rw [h]; exact b2
      · rw [h]; exact b3
      · exact HZ1.out z h
    have HT : Hid ((row6 H0 H1 H2 H3 ys).length = 6 + n) := by show _ = _; rw [row6_length, HN.out]
    clear hH0 hH1 hH2 hH3
    go_loopw [8] (fun i wr => ∃ j : Nat, j ≤ 4 ∧ i = .int .i64 j ∧ Buf 5 wr w1.heap.size (fill (row6 H0 H1 H2 H3 ys) (2 + j)) ∧ Below w1.heap.size w1 wr) (fun i _ => 4 - (intOf i).toNat)
    case atStart =>
      refine ⟨0, by omega, rfl, ?_, (Below.refl _ _).alloc (Nat.le_refl _) _⟩
      unfold Buf
      rw [heap_alloc_new, HN.out, two_set H0 H1 H2 H3]
    case round =>
      obtain ⟨j, hj, rfl, hbuf, hbel⟩ := hrel
      by_cases hj4 : j < 4
      · have hyy := hbuf.fillCell (k := 2 + j) (by rw [HT.out]; omega)
        have hf := hbuf.free (2 + j)
        have hst := hbuf.fillStep (k := 2 + j) (by rw [HT.out]; omega)
        have hd : j = 0 ∨ j = 1 ∨ j = 2 ∨ j = 3 := by omega
        have hub : (6 : Int) ≤ 6 + (n : Int) := by omega
        clear hbuf
        rcases hd with rfl | rfl | rfl | rfl
        · have hnx := hst H0 (row6_2 H0 H1 H2 H3 ys).symm
          clear hst K1 K2 K3
          go_wp2_with (go_at_call 11; refine (K0 _).mono ?_; rintro e w' ⟨rfl, rfl⟩)
          go_roundw
          case rel => exact ⟨1, by omega, rfl, hnx, hbel.setCell (Nat.le_refl _) _⟩
          case measure => simp [intOf]
        · have hnx := hst H1 (row6_3 H0 H1 H2 H3 ys).symm
          clear hst K0 K2 K3
          go_wp2_with (go_at_call 11; refine (K1 _).mono ?_; rintro e w' ⟨rfl, rfl⟩)
          go_roundw
          case rel => exact ⟨2, by omega, rfl, hnx, hbel.setCell (Nat.le_refl _) _⟩
          case measure => simp [intOf]
        · have hnx := hst H2 (row6_4 H0 H1 H2 H3 ys).symm
          clear hst K0 K1 K3
          go_wp2_with (go_at_call 11; refine (K2 _).mono ?_; rintro e w' ⟨rfl, rfl⟩)
          go_roundw
          case rel => exact ⟨3, by omega, rfl, hnx, hbel.setCell (Nat.le_refl _) _⟩
          case measure => simp [intOf]
        · have hnx := hst H3 (row6_5 H0 H1 H2 H3 ys).symm
          clear hst K0 K1 K2
          go_wp2_with (go_at_call 11; refine (K3 _).mono ?_; rintro e w' ⟨rfl, rfl⟩)
          go_roundw
          case rel => exact ⟨4, by omega, rfl, hnx, hbel.setCell (Nat.le_refl _) _⟩
          case measure => simp [intOf]
      · have hj4' : j = 4 := by omega
        subst hj4'
        clear K0 K1 K2 K3
        go_wp2
        go_loopw [11] (fun i wr => ∃ j : Nat, j ≤ n ∧ i = .int .i64 j ∧ Buf 5 wr w1.heap.size (fill (row6 H0 H1 H2 H3 ys) (6 + j)) ∧ Below w1.heap.size w1 wr) (fun i _ => n - (intOf i).toNat)
        case atStart => exact ⟨0, Nat.zero_le _, rfl, hbuf, hbel⟩
        case round =>
          obtain ⟨j, hj, rfl, hbuf2, hbel2⟩ := hrel
          by_cases hltj : j < n
          · obtain ⟨b2, o2, rfl, hlt2, hcell2⟩ := HQ1.out (fun e => by have := HN.out; rw [e] at this; simp at this; omega)
            have hx : wr.cell? ⟨b2, o2 + j, none⟩ = some (.int .u8 (ys.getD j 0)) := (hbel2.cell (p := ⟨b2, o2 + j, none⟩) hlt2).trans (hcell2 j (by rw [← HN.out]; exact hltj))
            have hyy := hbuf2.fillCell (k := 6 + j) (by rw [HT.out]; omega)
            have hf := hbuf2.free (6 + j)
            have hnx := hbuf2.fillStep (k := 6 + j) (by rw [HT.out]; omega) (ys.getD j 0) (row6_tail H0 H1 H2 H3 ys j).symm
            generalize ys.getD j 0 = z at hx hnx
            have hknm : 6 + (j : Int) < 6 + (n : Int) := by omega
            clear hcell2 hbuf hbel hbuf2
            go_wp2
            go_roundw
            case rel => exact ⟨j + 1, by omega, by go_num, hnx, hbel2.setCell (Nat.le_refl _) _⟩
            case measure => simp [intOf]; omega
          · have hjn : j = n := by omega
            subst hjn
            have hbufT : Buf 5 wr w1.heap.size (row6 H0 H1 H2 H3 ys) := by
              rw [← HT.out, fill_all] at hbuf2; exact hbuf2
            have hrow := hbufT.row HBD.out (Nat.le_refl _)
            rw [HT.out] at hrow
            have hZ := zz_any _ (row6 H0 H1 H2 H3 ys) (by rw [HT.out]; omega) wr hrow (he1.later hbel2)
            rw [HUW.out] at hZ
            have hb1r : Below w.heap.size w wr := hb1.trans (hbel2.mono hb1.size)
            clear hrow hbuf hbel hbuf2 hbufT
            go_wp2_with (go_at_call 8; refine hZ.mono ?_)
            rintro e w5 ⟨rfl, hb5⟩
            go_wp2
            go_ret
            exact ⟨by simp, hb1r.trans (hb5.mono hb1r.size)⟩
  · have hB := bytes3_no u k a n cap (by omega) w
    clear h hn hlen
    go_enter Tryd.func4, Tryd.ntmps4
    go_wp2_with (go_at_call 10; refine hB.mono ?_; rintro e w' ⟨rfl, rfl⟩)
    go_ret
    exact ⟨rfl, Below.refl _ _⟩
end Go.Proofs.Qxb6600429aDoor
