/-
  DERIVED. The walk of FnFixedRoundsToNearestTiesToEven, at every argument.
-/
import Derived.Test.Qxb6601144aTailR
namespace Go.Proofs.Qxb6601144a
open Go.RowKit Go.Joins

theorem walkR_core (neg : Bool) (D : List UInt8) (ex : Int) (dec : Nat) (hs : Shape neg D ex) (hD : D.length ≤ 65536) (he0 : -65536 ≤ ex) (he1 : ex ≤ 65536) (hdec : dec ≤ 65536) (w : World)
    (hOK : ∀ w, Calls Try.prog 12 #[.bool neg, .string (str D), .int .i64 ex] w fun e w' => e = .returned (.bool true) ∧ w = w') :
    Calls Try.prog 5 #[.bool neg, .string (str D), .int .i64 ex, .int .i64 (dec : Int)] w fun e w' => e = .returned (.bool true) ∧ Below w.heap.size w w' := by
  have hsz : (str D).size = D.length := str_size D
  have hFx := fun w => zzfixed_any neg D ex dec hs.dig hD he0 he1 hdec w
  obtain ⟨sc, hsc⟩ : ∃ sc : Nat, (sc : Int) = max (dec : Int) (-ex) := ⟨(max (dec : Int) (-ex)).toNat, by omega⟩
  have hnear := fixed_near hs hsc
  have hhead := laid_head (dec := dec) hs
  have hKd := kept_dig ex dec hs.dig
  have hKl := kept_length D ex dec hs.dig
  have hzn : zcount ex dec ≤ 131072 := by have := kexp_nonneg ex dec; unfold kexp at this; split at this <;> omega
  unfold fixedL at hFx
  generalize kept D ex dec = K at *
  generalize zcount ex dec = zn at *
  have hWd : Dig (laidOut K zn dec) := laid_dig hKd _ _
  have hWl : dec + 1 ≤ (laidOut K zn dec).length := laid_length _ _ _
  have hWl2 : (laidOut K zn dec).length ≤ 290000 := by unfold laidOut padN; rw [List.length_append, List.length_append, zer_length, zer_length]; omega
  generalize laidOut K zn dec = WL at *
  obtain ⟨ip, hip⟩ : ∃ ip, WL.length - dec = ip := ⟨_, rfl⟩
  have htl : (WL.take ip).length = ip := by rw [List.length_take]; omega
  have hdl : (WL.drop ip).length = dec := by rw [List.length_drop]; omega
  have hcat : str (WL.take ip) ++ str (WL.drop ip) = str WL := by rw [cat_str, List.take_append_drop]
  have hsl : (strip WL).length ≤ WL.length := (List.dropWhile_sublist _).length_le
  obtain ⟨zx, hzx⟩ : ∃ z, z = (ex + ((sc : Int) + 1)).toNat := ⟨_, rfl⟩
  rw [show (ex + (sc : Int) + 1).toNat = zx by omega] at hnear
  have hz2 : ((sc : Int) + 1 - (dec : Int) - 1).toNat = sc - dec := by omega
  have hXd : Dig (strip (D ++ zer zx)) := (hs.dig.append (Dig.zer _)).strip
  have hXl : (strip (D ++ zer zx)).length ≤ 300000 := by
    have : (strip (D ++ zer zx)).length ≤ (D ++ zer zx).length := (List.dropWhile_sublist _).length_le
    rw [List.length_append, zer_length] at this
    omega
  have hHl : (strip (strip WL ++ [53] ++ zer (sc - dec))).length ≤ 600000 := by
    have : (strip (strip WL ++ [53] ++ zer (sc - dec))).length ≤ (strip WL ++ [53] ++ zer (sc - dec)).length := (List.dropWhile_sublist _).length_le
    rw [List.length_append, List.length_append, zer_length, List.length_singleton] at this
    omega
  have hsg : (sgnL neg).length ≤ 1 := by rw [sgn_len]; split <;> omega
  rw [← val_strip (D ++ zer zx)] at hnear
  refine walkR_in neg (str D) (str (shown neg WL dec)) (str (WL.take ip)) (str (WL.drop ip)) (str (strip WL)) (str (zer zx)) (str (strip (D ++ zer zx))) (str (zer (sc - dec)))
    (str (strip (strip WL ++ [53] ++ zer (sc - dec)))) ex dec sc (sgnL neg).length ip ((sgnL neg).length + ip) (cmpL (strip (D ++ zer zx)) (strip (strip WL ++ [53] ++ zer (sc - dec)))) w
    (by omega) he0 he1 hdec (by omega) (by omega) (by omega) hsc ⟨rfl, by omega⟩ ?_ (shown_size neg hip (by omega)) (shown_at neg hip hWd) (shown_dot neg hip) (shown_int neg hip) (shown_frac neg hip)
    ?_ (by rw [str_size, htl]) (by omega) (by rw [str_size, hdl]) ?_ ?_ (by rw [str_size]; omega) (by rw [str_size, zer_length]; omega) (by rw [str_size, zer_length]; omega)
    (fun w => bytesR_yes neg (str D) ex dec (by omega) w) hOK hFx
    (fun w => allDigits_any (str (WL.drop ip)) true ?_ (by rw [str_size]; omega) w)
    (fun w => by rw [hcat]; exact strip_any (str WL) (strip WL) (by rw [str_data]) (by rw [str_size]; omega) w)
    (fun w => by rw [hzx]; exact zeros_any _ (by omega) w)
    (fun w => by rw [cat_str]; exact strip_any _ _ (by rw [str_data]) (by rw [str_size, List.length_append, zer_length]; omega) w)
    (fun w => by rw [← hz2]; exact zeros_any _ (by omega) w)
    (fun w => strip_any _ _ (by rw [half_data]) (by rw [half_size]; omega) w)
    (fun w => cmp_any _ _ _ (by rw [str_data, str_data]) (by rw [str_size]; omega) (by rw [str_size]; omega) w)
    (tail_of (sc - dec) hWd (by omega) (by omega) hXd hXl (NoZ.strip _) hnear)
  · cases neg
    · rfl
    · refine ⟨rfl, by rw [str_size]; simp [shown, sgnL], ?_⟩
      rfl
  · intro h
    have : WL.drop ip = [] := List.eq_nil_of_length_eq_zero (by omega)
    rw [this]
    rfl
  · intro h1
    have hz : NoZ WL := by
      rcases hhead with h | h
      · omega
      · exact h
    cases hW : WL with
    | nil => rw [hW] at hWl; simp at hWl
    | cons c r =>
      obtain ⟨m, hm⟩ : ∃ m, ip = m + 1 := ⟨ip - 1, by omega⟩
      refine ⟨by rw [str_size, ← hW, htl]; omega, ?_⟩
      subst hm
      have hc := hz c r hW
      have hc2 : (c.toNat : Int) ≠ 48 := by omega
      exact beq_false_of_ne hc2
  · rw [Lib.toList_data, str_data]
    cases h : WL.take ip with
    | nil => rw [h] at htl; simp at htl; omega
    | cons => rfl
  · rw [str_data]
    exact List.all_eq_true.2 fun c hc => isD_iff.2 (hWd.drop ip c hc)

set_option maxHeartbeats 1000000 in
set_option maxRecDepth 10000 in
theorem walkR (neg : Bool) (s : ByteArray) (ex dec : Int) (he0 : -9223372036854775808 ≤ ex) (he1 : ex ≤ 9223372036854775807) (hd0 : -9223372036854775808 ≤ dec) (hd1 : dec ≤ 9223372036854775807) (w : World) :
    Calls Try.prog 5 #[.bool neg, .string s, .int .i64 ex, .int .i64 dec] w fun e w' => e = .returned (.bool true) ∧ Below w.heap.size w w' := by
  by_cases hlen : s.size ≤ 1048576
  case neg =>
    have hB := bytesR_no neg s ex dec (by omega) w
    clear hlen
    go_enter Try.func5, Try.ntmps5
    go_wp2_with (go_at_call 11; refine hB.mono ?_; rintro e w' ⟨rfl, rfl⟩)
    go_ret
    exact ⟨rfl, Below.refl _ _⟩
  have hB := bytesR_yes neg s ex dec hlen w
  by_cases h1 : s.size ≤ 65536
  case neg =>
    have h1' : (65536 : Int) < (s.size : Int) := by omega
    go_enter Try.func5, Try.ntmps5
    go_wp2_with (go_at_call 11; refine hB.mono ?_; rintro e w' ⟨rfl, rfl⟩)
    go_ret
    exact ⟨rfl, Below.refl _ _⟩
  have h1' : (s.size : Int) ≤ 65536 := by omega
  by_cases h2 : -65536 ≤ ex
  case neg =>
    have h2' : ex < -65536 := by omega
    go_enter Try.func5, Try.ntmps5
    go_wp2_with (go_at_call 11; refine hB.mono ?_; rintro e w' ⟨rfl, rfl⟩)
    go_ret
    exact ⟨rfl, Below.refl _ _⟩
  by_cases h3 : ex ≤ 65536
  case neg =>
    have h3' : 65536 < ex := by omega
    go_enter Try.func5, Try.ntmps5
    go_wp2_with (go_at_call 11; refine hB.mono ?_; rintro e w' ⟨rfl, rfl⟩)
    go_ret
    exact ⟨rfl, Below.refl _ _⟩
  by_cases h4 : 0 ≤ dec
  case neg =>
    have h4' : dec < 0 := by omega
    go_enter Try.func5, Try.ntmps5
    go_wp2_with (go_at_call 11; refine hB.mono ?_; rintro e w' ⟨rfl, rfl⟩)
    go_ret
    exact ⟨rfl, Below.refl _ _⟩
  by_cases h5 : dec ≤ 65536
  case neg =>
    have h5' : 65536 < dec := by omega
    go_enter Try.func5, Try.ntmps5
    go_wp2_with (go_at_call 11; refine hB.mono ?_; rintro e w' ⟨rfl, rfl⟩)
    go_ret
    exact ⟨rfl, Below.refl _ _⟩
  obtain ⟨n, rfl⟩ : ∃ n : Nat, dec = (n : Int) := ⟨dec.toNat, by omega⟩
  obtain ⟨b, hb, hOK⟩ := decOK_any neg s.data.toList ex (by rw [← Lib.size_eq]; omega)
  rw [str_of] at hOK
  cases b with
  | false =>
    clear hb
    go_enter Try.func5, Try.ntmps5
    go_wp2_with (first | (go_at_call 11; refine hB.mono ?_; rintro e w' ⟨rfl, rfl⟩) | (go_at_call 12; refine (hOK _).mono ?_; rintro e w' ⟨rfl, rfl⟩))
    go_ret
    exact ⟨rfl, Below.refl _ _⟩
  | true =>
    have := walkR_core neg s.data.toList ex n (hb rfl) (by rw [← Lib.size_eq]; omega) h2 h3 (by omega) w (by rw [str_of]; exact hOK)
    rw [str_of] at this
    exact this
end Go.Proofs.Qxb6601144a
