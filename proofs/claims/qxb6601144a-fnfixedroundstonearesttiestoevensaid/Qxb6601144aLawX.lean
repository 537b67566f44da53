/-
  DERIVED. The walk of FnFixedExactReadsBackThroughScanNumber.
-/
import Derived.Test.Qxb6601144aScanAll
import Derived.Test.Qxb6601144aFixed
import Derived.Test.Qxb6601144aShape
namespace Go.Proofs.Qxb6601144a
open Go.RowKit Go.Joins

/-! ### What scan reads of a text that fixed writes -/
theorem dgs_full {I t : List UInt8} (hI : Dig I) (ht : t = [] ∨ ∃ r, t = 46 :: r) : dgs (I ++ t) = I := by
  induction I with
  | nil =>
    rcases ht with rfl | ⟨r, rfl⟩
    · rfl
    · exact dgs_cons_no (by decide)
  | cons c r ih =>
    have hc := hI.head
    rw [List.cons_append, dgs_cons_yes (isD_yes hc.1 hc.2), ih hI.tail]
theorem rst_full {I t : List UInt8} (hI : Dig I) (ht : t = [] ∨ ∃ r, t = 46 :: r) : rst (I ++ t) = t := by
  unfold rst
  rw [dgs_full hI ht, List.drop_left]
theorem core_shown (neg : Bool) {I F : List UInt8} (hI : Dig I) (hne : I ≠ []) (hF : Dig F) (dec : Nat) (hd : dec = 0 → F = []) :
    core neg (I ++ (if 0 < dec then 46 :: F else [])) = ⟨neg, I, F, 0, true⟩ := by
  have ht : (if 0 < dec then 46 :: F else []) = [] ∨ ∃ r, (if 0 < dec then 46 :: F else []) = 46 :: r := by
    by_cases h : 0 < dec
    · rw [if_pos h]; exact .inr ⟨F, rfl⟩
    · rw [if_neg h]; exact .inl rfl
  have h1 := dgs_full hI ht
  have h2 := rst_full hI ht
  have hfr : frc (if 0 < dec then 46 :: F else []) = F := by
    by_cases h : 0 < dec
    · rw [if_pos h]
      unfold frc
      rw [if_pos (show dt (46 :: F) = true from rfl)]
      have := dgs_full hF (t := []) (.inl rfl)
      rw [List.append_nil] at this
      exact this
    · rw [if_neg h, hd (by omega)]
      rfl
  have hat : aft (if 0 < dec then 46 :: F else []) = [] := by
    by_cases h : 0 < dec
    · rw [if_pos h]
      unfold aft
      rw [if_pos (show dt (46 :: F) = true from rfl)]
      have := rst_full hF (t := []) (.inl rfl)
      rw [List.append_nil] at this
      exact this
    · rw [if_neg h]
      rfl
  have h3 : tail2 (I ++ (if 0 < dec then 46 :: F else [])) = (0, true) := by
    unfold tail2
    rw [h1, h2, if_neg (fun h => hne h.1), hat]
    rfl
  unfold core
  rw [h1, h2, h3, hfr]
theorem scan_shown (neg : Bool) {WL : List UInt8} (hW : Dig WL) (dec : Nat) (hl : dec + 1 ≤ WL.length) :
    scan (shown neg WL dec) = ⟨neg, WL.take (WL.length - dec), WL.drop (WL.length - dec), 0, true⟩ := by
  have hne : WL.take (WL.length - dec) ≠ [] := by
    intro h
    have := congrArg List.length h
    rw [List.length_take, List.length_nil] at this
    omega
  have hz : dec = 0 → WL.drop (WL.length - dec) = [] := fun h => List.drop_eq_nil_of_le (by omega)
  have hc := core_shown neg (hW.take (WL.length - dec)) hne (hW.drop (WL.length - dec)) dec hz
  cases neg
  · have e : shown false WL dec = WL.take (WL.length - dec) ++ (if 0 < dec then 46 :: WL.drop (WL.length - dec) else []) := rfl
    rw [e]
    cases hI : WL.take (WL.length - dec) with
    | nil => exact absurd hI hne
    | cons c r =>
      have hcd := (hW.take (WL.length - dec)) c (by rw [hI]; exact List.mem_cons_self ..)
      rw [hI] at hc
      unfold scan
      rw [List.cons_append, sg_cons_no (by omega), ng_no (by omega)]
      exact hc
  · have e : shown true WL dec = 45 :: (WL.take (WL.length - dec) ++ (if 0 < dec then 46 :: WL.drop (WL.length - dec) else [])) := rfl
    rw [e]
    exact hc

theorem kept_exact {D : List UInt8} {ex : Int} {dec : Nat} (h : 0 ≤ ex + (dec : Int)) : kept D ex dec = D ∧ (zcount ex dec : Int) = ex + (dec : Int) := by
  unfold kept zcount kexp
  rw [if_neg (by omega), if_neg (by omega)]
  exact ⟨rfl, by omega⟩
theorem laid_length (K : List UInt8) (zn dec : Nat) : dec + 1 ≤ (laidOut K zn dec).length := by
  unfold laidOut padN
  rw [List.length_append, zer_length]
  omega
theorem laid_dig {K : List UInt8} (h : Dig K) (zn dec : Nat) : Dig (laidOut K zn dec) := (Dig.zer _).append (h.append (Dig.zer _))
theorem laid_strip (K : List UInt8) (zn dec : Nat) : strip (laidOut K zn dec) = strip (K ++ zer zn) := strip_zer_append _ _
theorem noz_append {a b : List UInt8} (h : NoZ a) (hne : a ≠ []) : NoZ (a ++ b) := by
  cases a with
  | nil => exact absurd rfl hne
  | cons c r =>
    intro d t e
    obtain ⟨rfl, _⟩ := List.cons.inj e
    exact h c r rfl

set_option maxHeartbeats 2000000 in
set_option maxRecDepth 10000 in
theorem walkX_core (neg : Bool) (D : List UInt8) (ex : Int) (dec : Nat) (hs : Shape neg D ex) (hD : D.length ≤ 65536) (he0 : -65536 ≤ ex) (he1 : ex ≤ 65536) (hdec : dec ≤ 65536) (hex : 0 ≤ ex + (dec : Int)) (w : World)
    (hOK : ∀ w, Calls Try.prog 12 #[.bool neg, .string (str D), .int .i64 ex] w fun e w' => e = .returned (.bool true) ∧ w = w') :
    Calls Try.prog 6 #[.bool neg, .string (str D), .int .i64 ex, .int .i64 (dec : Int)] w fun e w' => e = .returned (.bool true) ∧ Below w.heap.size w w' := by
  have hsz : (str D).size = D.length := str_size D
  have hB := bytesX_yes neg (str D) ex dec (by omega) w
  obtain ⟨hk, hzc⟩ := kept_exact (D := D) hex
  have hFx := fun w => zzfixed_any neg D ex dec hs.dig hD he0 he1 hdec w
  obtain ⟨WL, hWL⟩ : ∃ W, W = laidOut (kept D ex dec) (zcount ex dec) dec := ⟨_, rfl⟩
  have hfl : fixedL neg D ex dec = shown neg WL dec := by rw [hWL]; rfl
  obtain ⟨zn, hzn⟩ : ∃ z, z = zcount ex dec := ⟨_, rfl⟩
  rw [← hzn] at hzc hWL
  rw [hk] at hWL
  have hWd : Dig WL := by rw [hWL]; exact laid_dig hs.dig _ _
  have hWl : dec + 1 ≤ WL.length := by rw [hWL]; exact laid_length _ _ _
  have hWl2 : WL.length ≤ 300000 := by rw [hWL]; unfold laidOut padN; rw [List.length_append, List.length_append, zer_length, zer_length]; omega
  have hsc := scan_shown neg hWd dec hWl
  rw [hfl] at hFx
  have hsl : (str (shown neg WL dec)).size ≤ 9223372036854775806 := by
    rw [str_size]
    unfold shown
    rw [List.length_append, List.length_append, List.length_take]
    have h1 : (sgnL neg).length ≤ 1 := by cases neg <;> simp [sgnL]
    have h2 : (if 0 < dec then (46 : UInt8) :: WL.drop (WL.length - dec) else []).length ≤ WL.length + 1 := by
      split
      · rw [List.length_cons, List.length_drop]; omega
      · simp
    omega
  have hSc := fun w => zzscan_any (str (shown neg WL dec)) hsl w
  rw [str_data, hsc] at hSc
  have hSt := fun w => strip_any (str WL) (strip WL) (by rw [str_data]) (by rw [str_size]; omega) w
  have hcat : str (WL.take (WL.length - dec)) ++ str (WL.drop (WL.length - dec)) = str WL := by rw [cat_str, List.take_append_drop]
  have hst : strip WL = strip (D ++ zer zn) := by rw [hWL]; exact laid_strip _ _ _
  rw [← hcat] at hSt
  have hl1 : (str (WL.take (WL.length - dec))).size ≤ 300000 := by rw [str_size, List.length_take]; omega
  have hl2 : (str (WL.drop (WL.length - dec))).size = dec := by rw [str_size, List.length_drop]; omega
  rw [hst] at hSt
  clear hfl hk hzn hsl hsc hWd hWl hcat hst hWL
  generalize str (shown neg WL dec) = G at hFx hSc
  generalize str (WL.take (WL.length - dec)) = I at hSc hSt hl1
  generalize str (WL.drop (WL.length - dec)) = F at hSc hSt hl2
  have hSc' : ∀ w, Calls Try.prog 8 #[.string G] w fun e w' => e = .returned (.tuple #[.bool neg, .string I, .string F, .int .i64 0, .bool true]) ∧ Below w.heap.size w w' := hSc
  clear hSc
  by_cases hDe : D = []
  · have hE : (str D).toList.isEmpty = true := by rw [Lib.toList_data, str_data, hDe]; rfl
    have hss : strip (D ++ zer zn) = [] := by rw [hDe]; exact strip_zer zn
    rw [hss] at hSt
    have hE2 : (str []).toList.isEmpty = true := by rw [Lib.toList_data, str_data]; rfl
    clear hss hDe hs
    go_enter Try.func6, Try.ntmps6
    go_wp2_with (first | (go_at_call 20; refine hB.mono ?_; rintro e w' ⟨rfl, rfl⟩) | (go_at_call 12; refine (hOK _).mono ?_; rintro e w' ⟨rfl, rfl⟩) | (go_at_call 13; refine (hFx _).mono ?_; rintro e w1 ⟨rfl, hb1⟩) | (go_at_call 8; refine (hSc' _).mono ?_; rintro e w2 ⟨rfl, hb2⟩) | (go_at_call 16; refine (hSt _).mono ?_; rintro e w' ⟨rfl, rfl⟩))
    go_ret
    exact ⟨rfl, hb1.trans (hb2.mono hb1.size)⟩
  · have hDp : 0 < D.length := List.length_pos_iff.2 hDe
    have hE : (str D).toList.isEmpty = false := by
      rw [Lib.toList_data, str_data]
      cases D with
      | nil => exact absurd rfl hDe
      | cons => rfl
    have hss : strip (D ++ zer zn) = D ++ zer zn := strip_noz (noz_append hs.noz hDe)
    rw [hss] at hSt
    have hlast := hs.last hDp
    have hVs : (str (D ++ zer zn)).size = D.length + zn := by rw [str_size, List.length_append, zer_length]
    have hV0 : Hid (∀ i (h : i < (str (D ++ zer zn)).size), D.length ≤ i → ((str (D ++ zer zn))[i].toNat : Int) = 48) := fun i h hi => by
      have e : (str (D ++ zer zn))[i] = (D ++ zer zn)[i]'(by rw [List.length_append, zer_length, ← hVs]; exact h) := rfl
      rw [e, List.getElem_append_right hi]
      unfold zer
      rw [List.getElem_replicate]
      rfl
    have hV1 : Hid (∀ h : D.length - 1 < (str (D ++ zer zn)).size, ((str (D ++ zer zn))[D.length - 1].toNat : Int) ≠ 48) := fun h => by
      have e : (str (D ++ zer zn))[D.length - 1] = (D ++ zer zn)[D.length - 1]'(by rw [List.length_append, zer_length, ← hVs]; exact h) := rfl
      rw [e, List.getElem_append_left (by omega)]
      intro h2
      exact hlast (by omega)
    have HX : Hid ((str (D ++ zer zn)).extract 0 D.length = str D) := by
      show _ = _
      rw [extract_str, str_data]
      congr 1
      rw [List.drop_zero, Nat.sub_zero, List.take_left]
    generalize str (D ++ zer zn) = V at hSt hVs hV0 hV1 HX
    clear hss hlast hs hDe
    have HZE : Hid ((zn : Int) - (dec : Int) = ex) := by show _ = _; omega
    have hVl : V.size ≤ 300000 := by omega
    have HVs : Hid (V.size = D.length + zn) := hVs
    clear hzc hVs
    go_enter Try.func6, Try.ntmps6
    go_wp2_with (first | (go_at_call 20; refine hB.mono ?_; rintro e w' ⟨rfl, rfl⟩) | (go_at_call 12; refine (hOK _).mono ?_; rintro e w' ⟨rfl, rfl⟩) | (go_at_call 13; refine (hFx _).mono ?_; rintro e w1 ⟨rfl, hb1⟩) | (go_at_call 8; refine (hSc' _).mono ?_; rintro e w2 ⟨rfl, hb2⟩) | (go_at_call 16; refine (hSt _).mono ?_; rintro e w' ⟨rfl, rfl⟩))
    clear hB hOK hFx hSc' hSt
    have hend := hb1.trans (hb2.mono hb1.size)
    clear hb1 hb2
    go_loop [16] (fun i => ∃ k : Nat, k ≤ zn ∧ i = .int .i64 k) (fun i => zn - (intOf i).toNat)
    case atStart => exact ⟨0, Nat.zero_le _, rfl⟩
    case round =>
      obtain ⟨k, hk, rfl⟩ := hrel
      have hVs := HVs.out
      obtain ⟨n, hn⟩ : ∃ n : Nat, (V.size : Int) - 1 - (k : Int) = (n : Int) := ⟨V.size - 1 - k, by omega⟩
      have hidx : n < V.size := by omega
      have hkV : (k : Int) < (V.size : Int) := by omega
      by_cases hlt : k < zn
      · have b1 : ((V[n].toNat : Int) == 48) = true := by
          have := hV0.out n hidx (by omega)
          rw [this]; rfl
        clear hVs
        go_wp2
        go_round
        case rel => exact ⟨k + 1, by omega, by go_num⟩
        case measure => simp [intOf]; omega
      · have hkz : k = zn := by omega
        subst hkz
        have hnD : n = D.length - 1 := by omega
        subst hnD
        have b1 : ((V[D.length - 1].toNat : Int) == 48) = false := by
          have := hV1.out hidx
          simpa using this
        have hsub : (V.size : Int) - (k : Int) = (D.length : Int) := by omega
        have hDV : (D.length : Int) ≤ (V.size : Int) := by omega
        have hx := HX.out
        have hz := HZE.out
        clear hVs hV0 hV1
        go_wp2
        go_ret
        exact ⟨by simp, hend⟩
end Go.Proofs.Qxb6601144a
