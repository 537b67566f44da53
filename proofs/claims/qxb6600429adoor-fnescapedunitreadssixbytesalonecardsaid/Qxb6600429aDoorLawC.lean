/-
  DERIVED. The walk of FnEscapedUnitReadsSixBytesAlone.
-/
import Derived.Test.Qxb6600429aDoorUnit
namespace Go.Proofs.Qxb6600429aDoor
open Go.RowKit Go.Joins

set_option maxHeartbeats 1000000 in
theorem bytes2_yes (a b : Option Addr) (n m c d : Nat) (h : n + m ≤ 1048576) (w : World) :
    Calls Tryd.prog 12 #[.slice a n c, .slice b m d] w fun e w' => e = .returned (.bool true) ∧ w = w' := by
  go_enter Tryd.func12, Tryd.ntmps12
  go_wp2
  go_ret
  exact ⟨rfl, rfl⟩
set_option maxHeartbeats 1000000 in
theorem bytes2_no (a b : Option Addr) (n m c d : Nat) (h : 1048576 < n + m) (w : World) :
    Calls Tryd.prog 12 #[.slice a n c, .slice b m d] w fun e w' => e = .returned (.bool false) ∧ w = w' := by
  by_cases h1 : n ≤ 1048576
  · by_cases h2 : m ≤ 1048576
    · go_enter Tryd.func12, Tryd.ntmps12
      go_wp2
      go_ret
      exact ⟨rfl, rfl⟩
    · go_enter Tryd.func12, Tryd.ntmps12
      go_wp2
      go_ret
      exact ⟨rfl, rfl⟩
  · go_enter Tryd.func12, Tryd.ntmps12
    go_wp2
    go_ret
    exact ⟨rfl, rfl⟩

theorem getD_app_left {zs ys : List Int} {k : Nat} (h : k < zs.length) : (zs ++ ys).getD k 0 = zs.getD k 0 := by
  rw [List.getD_eq_getElem?_getD, List.getElem?_append_left h, ← List.getD_eq_getElem?_getD]
theorem getD_app_right {zs ys : List Int} {k : Nat} : (zs ++ ys).getD (zs.length + k) 0 = ys.getD k 0 := by
  rw [List.getD_eq_getElem?_getD, List.getElem?_append_right (by omega), ← List.getD_eq_getElem?_getD]
  congr 1; omega
theorem mem_app {zs ys : List Int} (h1 : ∀ z ∈ zs, 0 ≤ z ∧ z ≤ 255) (h2 : ∀ z ∈ ys, 0 ≤ z ∧ z ≤ 255) : ∀ z ∈ zs ++ ys, 0 ≤ z ∧ z ≤ 255 := by
  intro z hz
  rcases List.mem_append.1 hz with h | h
  · exact h1 z h
  · exact h2 z h

set_option maxHeartbeats 3000000 in
theorem walkC (a b : Option Addr) (n m c d : Nat) (zs ys : List Int) (w : World) (hn : n = zs.length) (hm : m = ys.length)
    (h : Row w (.slice a n c) zs) (hy : Row w (.slice b m d) ys) (he : Err w) :
    Calls Tryd.prog 5 #[.slice a n c, .slice b m d] w fun e w' => e = .returned (.bool true) ∧ Below w.heap.size w w' := by
  by_cases hlen : n + m ≤ 1048576
  · have hB := bytes2_yes a b n m c d hlen w
    by_cases h19 : n ≤ 524288 ∧ m ≤ 524288
    · obtain ⟨hn19, hm19⟩ := h19
      have hC := clone_any _ zs (by omega) w h
      have HN : Hid (n = zs.length) := hn
      have HM : Hid (m = ys.length) := hm
      clear h hn hm
      go_enter Tryd.func5, Tryd.ntmps5
      go_wp2_with (first | (go_at_call 12; refine hB.mono ?_; rintro e w' ⟨rfl, rfl⟩) | (go_at_call 7; refine hC.mono ?_))
      rintro e w1 ⟨v1, rfl, hr1, hb1⟩
      have hC2 := clone_any _ ys (by have := HM.out; omega) w1 (hy.later hb1)
      clear hB hC hy
      go_wp2_with (go_at_call 7; refine hC2.mono ?_)
      rintro e w2 ⟨v2, rfl, hr2, hb2⟩
      have hr1' := hr1.later hb2
      have he2 := (he.later hb1).later hb2
      have hZ := zz_any v1 zs (by have := HN.out; omega) w2 hr1' he2
      have hub := unit_bd zs
      have hush : Hid (zs.length < 6 → unit zs = -1) := fun h => unit_short h
      have hlong : Hid (6 ≤ zs.length → unit (zs ++ ys) = unit zs ∧ unit (zs.take 6) = unit zs) := fun h => ⟨unit_pre h ys, unit_take h⟩
      have hb12 : Below w.heap.size w w2 := hb1.trans (hb2.mono hb1.size)
      obtain ⟨a1, c1, rfl, hcp1, hq1, hz1⟩ := hr1'
      obtain ⟨a2, c2, rfl, hcp2, hq2, hz2⟩ := hr2
      clear hr1 hC2 hb1 hb2 he
      generalize unit zs = u at hZ hub hush hlong
      rw [← HN.out] at hZ hq1 hcp1 hush hlong ⊢
      rw [← HM.out] at hq2 hcp2 ⊢
      obtain ⟨hu0, hu1⟩ := hub
      have HQ2 : Hid (ys ≠ [] → ∃ b off, a2 = some ⟨b, off, none⟩ ∧ b < w2.heap.size ∧ ∀ i, i < m → w2.cell? ⟨b, off + i, none⟩ = some (.int .u8 (ys.getD i 0))) := hq2
      clear hq2
      by_cases h6 : n < 6
      · have hue := hush.out h6
        subst hue
        clear hq1 hlong hush
        go_wp2_with (go_at_call 8; refine hZ.mono ?_; rintro e w3 ⟨rfl, hb3⟩)
        go_ret
        exact ⟨rfl, hb12.trans (hb3.mono hb12.size)⟩
      · obtain ⟨b1, o1, rfl, hlt1, hcell1⟩ := hq1 (fun e => h6 (by rw [HN.out, e]; simp))
        obtain ⟨hul, hut⟩ := hlong.out (by omega)
        have HU : Hid (unit (zs ++ ys) = u ∧ unit (zs.take 6) = u) := ⟨hul, hut⟩
        clear hush hlong hul hut hq1
        have hmk1 : ∀ w, (Instr.makeSlice 22 (.int .i64 ((n : Int) + (m : Int))) (.int .i64 ((n : Int) + (m : Int)))).run Tryd.prog w = .ok (.slice (some ⟨w.heap.size, 0, none⟩) (n + m) (n + m)) (w.alloc (.cells (madeCells #[.int .u8 0] (n + m)) 5)) := make_run (n + m) (by omega) (by omega)
        go_wp2_with (go_at_call 8; refine hZ.mono ?_)
        rintro e w3 ⟨rfl, hb3⟩
        have hb13 : Below w.heap.size w w3 := hb12.trans (hb3.mono hb12.size)
        have he3 := he2.later hb3
        have HC1 : Hid (∀ i, i < n → w3.cell? ⟨b1, o1 + i, none⟩ = some (.int .u8 (zs.getD i 0))) := fun i hi => (hb3.cell (p := ⟨b1, o1 + i, none⟩) hlt1).trans (hcell1 i hi)
        have hlt3 : b1 < w3.heap.size := Nat.lt_of_lt_of_le hlt1 hb3.size
        have HQ3 : Hid (ys ≠ [] → ∃ b off, a2 = some ⟨b, off, none⟩ ∧ b < w3.heap.size ∧ ∀ i, i < m → w3.cell? ⟨b, off + i, none⟩ = some (.int .u8 (ys.getD i 0))) := fun hne => by
          obtain ⟨b, off, ha, hlt, hcell⟩ := HQ2.out hne
          exact ⟨b, off, ha, Nat.lt_of_lt_of_le hlt hb3.size, fun i hi => (hb3.cell (p := ⟨b, off + i, none⟩) hlt).trans (hcell i hi)⟩
        have hst : Buf 5 (w3.alloc (.cells (madeCells #[.int .u8 0] (n + m)) 5)) w3.heap.size (fill (zs ++ ys) 0) := by
          have := Buf.fillStart 5 w3 (zs ++ ys)
          rw [List.length_append, ← HN.out, ← HM.out] at this
          exact this
        clear hb12 hb3 he2 hcell1 hlt1 HQ2 hZ
        have hTl : (zs ++ ys).length = n + m := by rw [List.length_append, ← HN.out, ← HM.out]
        have HTl : Hid ((zs ++ ys).length = n + m) := hTl
        clear hTl
        go_wp2
        go_loopw [7] (fun i wr => ∃ k : Nat, k ≤ n ∧ i = .int .i64 k ∧ Buf 5 wr w3.heap.size (fill (zs ++ ys) k) ∧ Below w3.heap.size w3 wr) (fun i _ => n - (intOf i).toNat)
        case atStart => exact ⟨0, Nat.zero_le _, rfl, hst, (Below.refl _ _).alloc (Nat.le_refl _) _⟩
        case round =>
          obtain ⟨k, hk, rfl, hbuf, hbel⟩ := hrel
          by_cases hlt : k < n
          · have hx : wr.cell? ⟨b1, o1 + k, none⟩ = some (.int .u8 (zs.getD k 0)) := (hbel.cell (p := ⟨b1, o1 + k, none⟩) hlt3).trans (HC1.out k hlt)
            have hyy := hbuf.fillCell (k := k) (by rw [HTl.out]; omega)
            have hf := hbuf.free k
            have hnx := hbuf.fillStep (k := k) (by rw [HTl.out]; omega) (zs.getD k 0) (getD_app_left (by rw [← HN.out]; exact hlt)).symm
            have hknm : (k : Int) < (n : Int) + (m : Int) := by omega
            go_wp2
            go_roundw
            case rel => exact ⟨k + 1, by omega, by go_num, hnx, hbel.setCell (Nat.le_refl _) _⟩
            case measure => simp [intOf]; omega
          · have hkn : k = n := by omega
            subst hkn
            clear hst hmk1
            go_wp2
            go_loopw [8] (fun i wq => ∃ j : Nat, j ≤ m ∧ i = .int .i64 j ∧ Buf 5 wq w3.heap.size (fill (zs ++ ys) (k + j)) ∧ Below w3.heap.size w3 wq) (fun i _ => m - (intOf i).toNat)
            case atStart => exact ⟨0, Nat.zero_le _, rfl, hbuf, hbel⟩
            case round =>
              obtain ⟨j, hj, rfl, hbuf2, hbel2⟩ := hrel
              by_cases hltj : j < m
              · obtain ⟨b2, o2, rfl, hlt2, hcell2⟩ := HQ3.out (fun e => by have := HM.out; rw [e] at this; simp at this; omega)
                have hx : wr.cell? ⟨b2, o2 + j, none⟩ = some (.int .u8 (ys.getD j 0)) := (hbel2.cell (p := ⟨b2, o2 + j, none⟩) hlt2).trans (hcell2 j hltj)
                have hyy := hbuf2.fillCell (k := k + j) (by rw [HTl.out]; omega)
                have hf := hbuf2.free (k + j)
                have hnx := hbuf2.fillStep (k := k + j) (by rw [HTl.out]; omega) (ys.getD j 0) (by rw [HN.out]; exact getD_app_right.symm)
                have hknm : (k : Int) + (j : Int) < (k : Int) + (m : Int) := by omega
                clear hcell2 hbuf hbel hbuf2
                go_wp2
                go_roundw
                case rel => exact ⟨j + 1, by omega, by go_num, hnx, hbel2.setCell (Nat.le_refl _) _⟩
                case measure => simp [intOf]; omega
              · have hjm : j = m := by omega
                subst hjm
                have hbufT : Buf 5 wr w3.heap.size (zs ++ ys) := by
                  rw [← HTl.out, fill_all] at hbuf2; exact hbuf2
                have hrow := hbufT.row (mem_app hz1 hz2) (Nat.le_refl _)
                rw [HTl.out] at hrow
                have hZ2 := zz_any _ (zs ++ ys) (by rw [HTl.out]; omega) wr hrow (he3.later hbel2)
                rw [HU.out.1] at hZ2
                have hb1q : Below w.heap.size w wr := hb13.trans (hbel2.mono hb13.size)
                have hmk2 : ∀ w, (Instr.makeSlice 22 (.int .i64 6) (.int .i64 6)).run Tryd.prog w = .ok (.slice (some ⟨w.heap.size, 0, none⟩) 6 6) (w.alloc (.cells (madeCells #[.int .u8 0] 6) 5)) := make_run 6 (by omega) (by omega)
                clear hrow hbuf hbel hbuf2
                go_wp2_with (go_at_call 8; refine hZ2.mono ?_)
                rintro e w5 ⟨rfl, hb5⟩
                have hT6 : (zs.take 6).length = 6 := by rw [List.length_take, ← HN.out]; omega
                have HT6 : Hid ((zs.take 6).length = 6) := hT6
                have hst6 := Buf.fillStart 5 w5 (zs.take 6)
                rw [hT6] at hst6
                have hb35 : Below w3.heap.size w3 w5 := hbel2.trans (hb5.mono hbel2.size)
                have he5 : Err w5 := he3.later hb35
                have HC5 : Hid (∀ i, i < 6 → w5.cell? ⟨b1, o1 + i, none⟩ = some (.int .u8 ((zs.take 6).getD i 0))) := fun i hi => by
                  rw [getD_take_lt _ _ _ _ hi]
                  exact (hb35.cell (p := ⟨b1, o1 + i, none⟩) hlt3).trans (HC1.out i (by omega))
                have hlt5 : b1 < w5.heap.size := Nat.lt_of_lt_of_le hlt3 hb35.size
                have hb15 : Below w.heap.size w w5 := hb13.trans (hb35.mono hb13.size)
                clear hT6 hZ2 hbufT hbel2 hb35 hb13 he3
                go_wp2
                go_loopw [10] (fun i wr => ∃ k : Nat, k ≤ 6 ∧ i = .int .i64 k ∧ Buf 5 wr w5.heap.size (fill (zs.take 6) k) ∧ Below w5.heap.size w5 wr) (fun i _ => 6 - (intOf i).toNat)
                case atStart => exact ⟨0, Nat.zero_le _, rfl, hst6, (Below.refl _ _).alloc (Nat.le_refl _) _⟩
                case round =>
                  obtain ⟨i, hi, rfl, hbuf6, hbel6⟩ := hrel
                  by_cases hlti : i < 6
                  · have hx : wr.cell? ⟨b1, o1 + i, none⟩ = some (.int .u8 ((zs.take 6).getD i 0)) := (hbel6.cell (p := ⟨b1, o1 + i, none⟩) hlt5).trans (HC5.out i hlti)
                    have hyy := hbuf6.fillCell (k := i) (by rw [HT6.out]; omega)
                    have hf := hbuf6.free i
                    have hnx := hbuf6.fillStep (k := i) (by rw [HT6.out]; omega) ((zs.take 6).getD i 0) rfl
                    generalize (zs.take 6).getD i 0 = z at hx hnx
                    have hin : (i : Int) < (k : Int) := by omega
                    clear hbuf6 hst6
                    go_wp2
                    go_roundw
                    case rel => exact ⟨i + 1, by omega, by go_num, hnx, hbel6.setCell (Nat.le_refl _) _⟩
                    case measure => simp [intOf]; omega
                  · have hi6 : i = 6 := by omega
                    subst hi6
                    have hbufH : Buf 5 wr w5.heap.size (zs.take 6) := by
                      have hfa := fill_all (zs.take 6)
                      rw [HT6.out] at hfa
                      rw [hfa] at hbuf6; exact hbuf6
                    have hrow6 := hbufH.row (fun z hz => hz1 z (List.mem_of_mem_take hz)) (Nat.le_refl _)
                    rw [HT6.out] at hrow6
                    have hZ6 := zz_any _ (zs.take 6) (by rw [HT6.out]; omega) wr hrow6 (he5.later hbel6)
                    rw [HU.out.2] at hZ6
                    have hb1r : Below w.heap.size w wr := hb15.trans (hbel6.mono hb15.size)
                    clear hrow6 hbuf6 hbufH hst6 hmk2
                    go_wp2_with (go_at_call 8; refine hZ6.mono ?_)
                    rintro e w7 ⟨rfl, hb7⟩
                    go_wp2
                    go_ret
                    exact ⟨by simp, hb1r.trans (hb7.mono hb1r.size)⟩
    · clear h hn hm hy
      go_enter Tryd.func5, Tryd.ntmps5
      by_cases hn19 : n ≤ 524288
      · have hm19 : 524288 < m := by omega
        clear h19
        go_wp2_with (go_at_call 12; refine hB.mono ?_; rintro e w' ⟨rfl, rfl⟩)
        go_ret
        exact ⟨rfl, Below.refl _ _⟩
      · clear h19
        go_wp2_with (go_at_call 12; refine hB.mono ?_; rintro e w' ⟨rfl, rfl⟩)
        go_ret
        exact ⟨rfl, Below.refl _ _⟩
  · have hB := bytes2_no a b n m c d (by omega) w
    clear h hn hm hlen hy
    go_enter Tryd.func5, Tryd.ntmps5
    go_wp2_with (go_at_call 12; refine hB.mono ?_; rintro e w' ⟨rfl, rfl⟩)
    go_ret
    exact ⟨rfl, Below.refl _ _⟩
end Go.Proofs.Qxb6600429aDoor
