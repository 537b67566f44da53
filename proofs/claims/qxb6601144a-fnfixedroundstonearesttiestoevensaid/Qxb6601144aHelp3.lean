/-
  DERIVED. increment and b1Decrement, walked.
-/
import Derived.Test.Qxb6601144aHelp2
namespace Go.Proofs.Qxb6601144a
open Go.RowKit Go.Joins

/-- The first n bytes as they were, the rest turned to f. -/
def tailed (f : UInt8) (l : List UInt8) (n : Nat) : List UInt8 := l.take n ++ List.replicate (l.length - n) f
theorem tailed_length {f : UInt8} {l : List UInt8} {n : Nat} (h : n ≤ l.length) : (tailed f l n).length = l.length := by simp [tailed]; omega
theorem tailed_all (f : UInt8) (l : List UInt8) : tailed f l l.length = l := by simp [tailed]
theorem tailed_get {f : UInt8} {l : List UInt8} {n : Nat} (h : n < l.length) : (tailed f l (n + 1)).getD n 0 = l[n] := by
  unfold tailed
  rw [List.getD_eq_getElem?_getD, List.getElem?_append_left (by simp; omega), List.getElem?_take_of_lt (by omega), List.getElem?_eq_getElem h]
  rfl
theorem tailed_set {f c : UInt8} {l : List UInt8} {n : Nat} (h : n < l.length) : (tailed f l (n + 1)).set n c = l.take n ++ c :: List.replicate (l.length - (n + 1)) f := by
  unfold tailed
  have e1 : l.take (n + 1) = l.take n ++ [l[n]] := List.take_succ_eq_append_getElem h
  have e2 : (l.take n).length = n := by simp; omega
  rw [e1, List.append_assoc, List.set_append_right _ _ (by omega), e2, Nat.sub_self]
  rfl
theorem tailed_step {f : UInt8} {l : List UInt8} {n : Nat} (h : n < l.length) : (tailed f l (n + 1)).set n f = tailed f l n := by
  rw [tailed_set h]
  unfold tailed
  have e1 : l.length - n = (l.length - (n + 1)) + 1 := by omega
  rw [e1, List.replicate_succ]
theorem drop_split {l : List UInt8} {n : Nat} (h : n < l.length) : l = l.take n ++ l[n] :: l.drop (n + 1) := by
  rw [← List.drop_eq_getElem_cons h, List.take_append_drop]

set_option maxHeartbeats 2000000 in
theorem increment_any (l : List UInt8) (hd : Dig l) (hl : l.length ≤ 1000000) (w : World) :
    Calls Try.prog 24 #[.string (str l)] w fun e w' => e = .returned (.string (str (incL l))) ∧ Below w.heap.size w w' := by
  obtain ⟨W1, cap, hcv, hb1, hbel1⟩ := Bts.conv w l
  have HD : Hid (Dig l) := hd
  have hst : Bts W1 w.heap.size (tailed 48 l l.length) cap := by rw [tailed_all]; exact hb1
  have hcap := hb1.le
  clear hd hb1
  obtain ⟨m, hm⟩ : ∃ m, m = l.length := ⟨_, rfl⟩
  have HM : Hid (m = l.length) := hm
  rw [← hm] at hcv hl hcap
  have hst' : Bts W1 w.heap.size (tailed 48 l m) cap := by rw [hm]; exact hst
  clear hm hst
  go_enter Try.func24, Try.ntmps24
  go_wp2
  go_loopw [4] (fun i wr => ∃ n : Nat, n ≤ m ∧ i = .int .i64 ((n : Int) - 1) ∧ Bts wr w.heap.size (tailed 48 l n) cap ∧ Below w.heap.size w wr ∧ Hid (∀ c ∈ l.drop n, c.toNat = 57)) (fun i _ => (intOf i + 1).toNat)
  case atStart => exact ⟨m, Nat.le_refl _, rfl, hst', hbel1, fun c hc => by rw [HM.out, List.drop_length] at hc; cases hc⟩
  case round =>
    obtain ⟨n, hn, rfl, hb, hbel, HN⟩ := hrel
    clear hst' hcv
    have hML := HM.out
    cases n with
    | zero =>
      have he : incL l = 49 :: zer l.length := incL_all (by have := HN.out; rwa [List.drop_zero] at this)
      have hb0 : Bts wr w.heap.size (zer l.length) cap := by
        have : tailed 48 l 0 = zer l.length := by simp [tailed, zer]
        rw [this] at hb; exact hb
      have hrun := hb0.str_run cap
      rw [zer_length, ← hML] at hrun
      have HEE : Hid (str (incL l) = { data := #[49] } ++ str (zer m)) := by
        show _ = _
        rw [he, ← hML]
        have : ({ data := #[49] } : ByteArray) = str [49] := rfl
        rw [this, cat_str]
        rfl
      have hzs : (str (zer m)).size ≤ 1000000 := by rw [str_size, zer_length]; exact hl
      clear hb hb0 he hML
      generalize str (zer m) = Z at hrun HEE hzs
      go_wp2
      go_ret
      exact ⟨by rw [HEE.out]; rfl, hbel⟩
    | succ n =>
      have hnl : n < l.length := by omega
      have hcc := hb.cell (i := n) (by rw [tailed_length (by omega)]; omega)
      rw [tailed_get hnl] at hcc
      have hcap' := hb.le
      rw [tailed_length (by omega)] at hcap'
      have hfr := hb.free (i := n) (by omega)
      have hdc := HD.out l[n] (List.getElem_mem hnl)
      have hnx := hb.set (i := n) (by rw [tailed_length (by omega)]; omega)
      have hsp := drop_split hnl
      have hi : (((n + 1 : Nat) : Int) - 1) = (n : Int) := by omega
      rw [hi]
      have i1 : (n : Int) < (m : Int) := by omega
      by_cases h57 : l[n].toNat = 57
      · have hs1 := hnx 48
        rw [tailed_step hnl] at hs1
        have b1 : ((l[n].toNat : Int) != 57) = false := by simp [h57]
        have HN2 : Hid (∀ c ∈ l.drop n, c.toNat = 57) := by
          intro c hc
          rw [List.drop_eq_getElem_cons hnl] at hc
          rcases List.mem_cons.1 hc with rfl | hc
          · exact h57
          · exact HN.out c hc
        generalize l[n] = c at hcc b1
        have hbel2 := hbel.setCell (p := ⟨w.heap.size, n, none⟩) (Nat.le_refl _) (.int .u8 (((48 : UInt8).toNat : Nat) : Int))
        clear hb hnx hsp hML hi h57 hdc HN
        go_wp2
        go_roundw
        case rel => exact ⟨n, by omega, by go_num, hs1, hbel2, HN2⟩
        case measure => simp [intOf]
      · have he : incL l = l.take n ++ (l[n] + 1) :: zer (l.drop (n + 1)).length := by
          conv => lhs; rw [hsp]
          exact incL_stop h57 HN.out
        have hs1 := hnx (l[n] + 1)
        rw [tailed_set hnl] at hs1
        have hzz : List.replicate (l.length - (n + 1)) (48 : UInt8) = zer (l.drop (n + 1)).length := by unfold zer; rw [List.length_drop]
        rw [hzz, ← he] at hs1
        have hel : (incL l).length = m := by rw [he, hML]; simp [zer]; omega
        have hrun := hs1.str_run cap
        rw [hel, succ_toNat (by omega)] at hrun
        have b1 : ((l[n].toNat : Int) != 57) = true := by simp; omega
        have hc56 : (l[n].toNat : Int) ≤ 56 := by omega
        have hbel2 := hbel.setCell (p := ⟨w.heap.size, n, none⟩) (Nat.le_refl _) (.int .u8 (((l[n].toNat + 1 : Nat) : Nat) : Int))
        generalize l[n] = c at hcc b1 hrun hbel2 hc56
        have hc0 : 0 ≤ (c.toNat : Int) := by omega
        have hcst : ((c.toNat + 1 : Nat) : Int) = (c.toNat : Int) + 1 := by omega
        rw [hcst] at hrun hbel2
        clear hb hnx hsp hML hi h57 hdc HN hs1 hzz he hel hcst
        go_wp2
        go_ret
        exact ⟨rfl, hbel2⟩

set_option maxHeartbeats 2000000 in
theorem decrement_any (l : List UInt8) (hd : Dig l) (hz : NoZ l) (hne : l ≠ []) (hl : l.length ≤ 1000000) (w : World) :
    Calls Try.prog 19 #[.string (str l)] w fun e w' => e = .returned (.string (str (strip (decC l).2))) ∧ Below w.heap.size w w' := by
  obtain ⟨W1, cap, hcv, hb1, hbel1⟩ := Bts.conv w l
  have HD : Hid (Dig l) := hd
  have HZ : Hid (NoZ l ∧ l ≠ []) := ⟨hz, hne⟩
  have hst : Bts W1 w.heap.size (tailed 57 l l.length) cap := by rw [tailed_all]; exact hb1
  have hcap := hb1.le
  clear hd hb1 hz hne
  obtain ⟨m, hm⟩ : ∃ m, m = l.length := ⟨_, rfl⟩
  have HM : Hid (m = l.length) := hm
  rw [← hm] at hcv hl hcap
  have hst' : Bts W1 w.heap.size (tailed 57 l m) cap := by rw [hm]; exact hst
  clear hm hst
  go_enter Try.func19, Try.ntmps19
  go_wp2
  go_loopw [4] (fun i wr => ∃ n : Nat, n ≤ m ∧ i = .int .i64 ((n : Int) - 1) ∧ Bts wr w.heap.size (tailed 57 l n) cap ∧ Below w.heap.size w wr ∧ Hid (∀ c ∈ l.drop n, c.toNat = 48)) (fun i _ => (intOf i + 1).toNat)
  case atStart => exact ⟨m, Nat.le_refl _, rfl, hst', hbel1, fun c hc => by rw [HM.out, List.drop_length] at hc; cases hc⟩
  case round =>
    obtain ⟨n, hn, rfl, hb, hbel, HN⟩ := hrel
    clear hst' hcv
    have hML := HM.out
    cases n with
    | zero =>
      exfalso
      obtain ⟨hz, hne⟩ := HZ.out
      cases l with
      | nil => exact hne rfl
      | cons c r => exact hz c r rfl (HN.out c (by rw [List.drop_zero]; exact List.mem_cons_self ..))
    | succ n =>
      have hnl : n < l.length := by omega
      have hcc := hb.cell (i := n) (by rw [tailed_length (by omega)]; omega)
      rw [tailed_get hnl] at hcc
      have hcap' := hb.le
      rw [tailed_length (by omega)] at hcap'
      have hfr := hb.free (i := n) (by omega)
      have hdc := HD.out l[n] (List.getElem_mem hnl)
      have hnx := hb.set (i := n) (by rw [tailed_length (by omega)]; omega)
      have hsp := drop_split hnl
      have hi : (((n + 1 : Nat) : Int) - 1) = (n : Int) := by omega
      rw [hi]
      have i1 : (n : Int) < (m : Int) := by omega
      by_cases h48 : l[n].toNat = 48
      · have hs1 := hnx 57
        rw [tailed_step hnl] at hs1
        have b1 : ((l[n].toNat : Int) == 48) = true := by simp [h48]
        have HN2 : Hid (∀ c ∈ l.drop n, c.toNat = 48) := by
          intro c hc
          rw [List.drop_eq_getElem_cons hnl] at hc
          rcases List.mem_cons.1 hc with rfl | hc
          · exact h48
          · exact HN.out c hc
        generalize l[n] = c at hcc b1
        have hbel2 := hbel.setCell (p := ⟨w.heap.size, n, none⟩) (Nat.le_refl _) (.int .u8 (((57 : UInt8).toNat : Nat) : Int))
        clear hb hnx hsp hML hi h48 hdc HN
        go_wp2
        go_roundw
        case rel => exact ⟨n, by omega, by go_num, hs1, hbel2, HN2⟩
        case measure => simp [intOf]
      · have he : (decC l).2 = l.take n ++ (l[n] - 1) :: nin (l.drop (n + 1)).length := by
          conv => lhs; rw [hsp]
          rw [dec_stop h48 HN.out]
        have hs1 := hnx (l[n] - 1)
        rw [tailed_set hnl] at hs1
        have hzz : List.replicate (l.length - (n + 1)) (57 : UInt8) = nin (l.drop (n + 1)).length := by unfold nin; rw [List.length_drop]
        rw [hzz, ← he] at hs1
        have hel : (decC l).2.length = m := by rw [he, hML]; simp [nin]; omega
        have hrun := hs1.str_run cap
        have hpt := pred_toNat (c := l[n]) (by omega)
        rw [hel, hpt] at hrun
        have b1 : ((l[n].toNat : Int) == 48) = false := by simp; omega
        have hc49 : 49 ≤ (l[n].toNat : Int) := by omega
        have hc57 : (l[n].toNat : Int) ≤ 57 := by omega
        have hbel2 := hbel.setCell (p := ⟨w.heap.size, n, none⟩) (Nat.le_refl _) (.int .u8 (((l[n].toNat - 1 : Nat) : Nat) : Int))
        have hS := fun w => strip_any (str (decC l).2) (strip (decC l).2) (by rw [str_data]) (by rw [str_size, hel]; omega) w
        generalize l[n] = c at hcc b1 hrun hbel2 hc49 hc57
        have hcst : ((c.toNat - 1 : Nat) : Int) = (c.toNat : Int) - 1 := by omega
        rw [hcst] at hrun hbel2
        clear hb hnx hsp hML hi h48 hdc HN hs1 hzz he hel hcst hpt
        generalize str (decC l).2 = Z at hrun hS
        go_wp2_with (go_at_call 16; refine (hS _).mono ?_; rintro e w' ⟨rfl, rfl⟩)
        go_ret
        exact ⟨rfl, hbel2⟩
end Go.Proofs.Qxb6601144a
