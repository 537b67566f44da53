/-
  DERIVED. PLAIN: fixed rounds to the nearest, ties to even.
-/
import Derived.Test.Qxb6601144aLawX
namespace Go.Proofs.Qxb6601144a
open Go.RowKit Go.Joins

theorem val_last {l : List UInt8} (h : l ≠ []) : val l = val l.dropLast * 10 + ((l.getLast h).toNat - 48) := by
  conv => lhs; rw [← List.dropLast_concat_getLast h, val_append]
  rw [val_cons, val_nil]
  simp
theorem val_odd {l : List UInt8} (h : l ≠ []) : val l % 2 = ((l.getLast h).toNat - 48) % 2 := by rw [val_last h]; omega

/-- N is X rounded, in units of 10 H, with ties to even. -/
structure Near (X N H : Nat) : Prop where
  hi : X ≤ (10 * N + 5) * H
  hieq : X = (10 * N + 5) * H → N % 2 = 0
  lo : 0 < N → (10 * (N - 1) + 5) * H ≤ X
  loeq : 0 < N → X = (10 * (N - 1) + 5) * H → N % 2 = 0

theorem near_down {X a P d r : Nat} (hX : X = 10 * (a * P) + d * P + 10 * r) (hr : 10 * r < P) (h : d < 5 ∨ d = 5 ∧ r = 0 ∧ a % 2 = 0) : Near X a P := by
  have e : (10 * a + 5) * P = 10 * (a * P) + 5 * P := by rw [Nat.add_mul, Nat.mul_assoc]
  have hd : d * P ≤ 5 * P := Nat.mul_le_mul_right _ (by omega)
  have hl : 0 < a → (10 * (a - 1) + 5) * P + 5 * P = 10 * (a * P) := fun h0 => by
    obtain ⟨b, rfl⟩ : ∃ b, a = b + 1 := ⟨a - 1, by omega⟩
    rw [Nat.add_sub_cancel, ← Nat.add_mul, ← Nat.mul_assoc]
    congr 1
  rcases h with h | ⟨rfl, rfl, ha⟩
  · have hd4 : d * P ≤ 4 * P := Nat.mul_le_mul_right _ (by omega)
    refine ⟨by omega, fun h' => by omega, fun h0 => by have := hl h0; omega, fun h0 h' => by have := hl h0; omega⟩
  · exact ⟨by omega, fun _ => ha, fun h0 => by have := hl h0; omega, fun _ _ => ha⟩
theorem near_up {X a P d r : Nat} (hX : X = 10 * (a * P) + d * P + 10 * r) (hr : 10 * r < P) (hd9 : d ≤ 9) (h : 5 < d ∨ d = 5 ∧ (0 < r ∨ a % 2 = 1)) : Near X (a + 1) P := by
  have e : (10 * (a + 1) + 5) * P = 10 * (a * P) + 15 * P := by
    rw [← Nat.mul_assoc, ← Nat.add_mul]
    congr 1
  have e2 : (10 * (a + 1 - 1) + 5) * P = 10 * (a * P) + 5 * P := by rw [Nat.add_sub_cancel, Nat.add_mul, Nat.mul_assoc]
  have hd : d * P ≤ 9 * P := Nat.mul_le_mul_right _ (by omega)
  rcases h with h | ⟨rfl, h⟩
  · have hd6 : 6 * P ≤ d * P := Nat.mul_le_mul_right _ (by omega)
    exact ⟨by omega, fun h' => by omega, fun _ => by omega, fun _ h' => by omega⟩
  · exact ⟨by omega, fun h' => by omega, fun _ => by omega, fun _ h' => by omega⟩

theorem rnd_near {D : List UInt8} {dr : Nat} (hd : Dig D) (hlast : ∀ h : 0 < D.length, (D[D.length - 1]'(by omega)).toNat ≠ 48) (hdr : 0 < dr) : Near (val D * 10) (val (rnd D dr)) (10 ^ dr) := by
  have hP : (10 : Nat) ^ dr = 10 * 10 ^ (dr - 1) := by
    obtain ⟨n, rfl⟩ : ∃ n, dr = n + 1 := ⟨dr - 1, by omega⟩
    rw [Nat.pow_succ, Nat.add_sub_cancel, Nat.mul_comm]
  by_cases hlt : D.length < dr
  · have hu : upB D dr = false := by unfold upB; rw [if_pos hlt]
    have hr : rnd D dr = [] := by unfold rnd; rw [hu, if_neg (by simp), show D.length - dr = 0 by omega]; rfl
    rw [hr]
    have h1 := val_lt hd
    have h2 : (10 : Nat) ^ D.length ≤ 10 ^ (dr - 1) := Nat.pow_le_pow_right (by omega) (by omega)
    exact near_down (d := 0) (r := val D) (by rw [val_nil]; omega) (by omega) (.inl (by omega))
  · obtain ⟨m, hm⟩ : ∃ m, m = D.length - dr := ⟨_, rfl⟩
    have hmD : m < D.length := by omega
    have hdig : 48 ≤ D[m].toNat ∧ D[m].toNat ≤ 57 := hd _ (List.getElem_mem _)
    have htl : (D.drop (m + 1)).length = dr - 1 := by rw [List.length_drop]; omega
    have hsplit : val D = val (D.take m) * 10 ^ dr + ((D[m].toNat - 48) * 10 ^ (dr - 1) + val (D.drop (m + 1))) := by
      conv => lhs; rw [drop_split hmD, val_append, val_cons, List.length_cons, htl]
      rw [show dr - 1 + 1 = dr by omega]
    have hr := val_lt (hd.drop (m + 1))
    rw [htl] at hr
    have hX : val D * 10 = 10 * (val (D.take m) * 10 ^ dr) + (D[m].toNat - 48) * 10 ^ dr + 10 * val (D.drop (m + 1)) := by
      rw [hsplit]
      have : (D[m].toNat - 48) * 10 ^ dr = 10 * ((D[m].toNat - 48) * 10 ^ (dr - 1)) := by rw [hP, Nat.mul_left_comm]
      omega
    have hgm : D.getD (D.length - dr) 0 = D[m] := by rw [← hm]; exact getD_at hmD
    have hru : ∀ u, upB D dr = u → rnd D dr = if u then incL (D.take m) else D.take m := fun u h => by unfold rnd; rw [h, ← hm]
    have hr10 : 10 * val (D.drop (m + 1)) < 10 ^ dr := by omega
    have hu : upB D dr = if D[m].toNat ≠ 53 then decide (53 < D[m].toNat) else if m + 1 < D.length then true else decide (0 < m ∧ ((D.getD (m - 1) 0).toNat - 48) % 2 = 1) := by
      unfold upB
      rw [if_neg hlt, hgm, ← hm]
    by_cases h53 : D[m].toNat = 53
    · rw [if_neg (fun h => h h53)] at hu
      by_cases hm1 : m + 1 < D.length
      · rw [if_pos hm1] at hu
        rw [hru true hu, if_pos rfl, incL_val (hd.take m)]
        refine near_up hX hr10 (by omega) (.inr ⟨by omega, .inl ?_⟩)
        have hne : D.drop (m + 1) ≠ [] := fun h => by
          have := congrArg List.length h
          rw [List.length_drop, List.length_nil] at this
          omega
        rw [val_last hne, List.getLast_drop, List.getLast_eq_getElem]
        have h1 := hlast (by omega)
        have h2 := hd _ (List.getElem_mem (l := D) (n := D.length - 1) (by omega))
        omega
      · rw [if_neg hm1] at hu
        have hz : D.drop (m + 1) = [] := List.drop_eq_nil_of_le (by omega)
        have hr0 : val (D.drop (m + 1)) = 0 := by rw [hz]; rfl
        by_cases hm0 : m = 0
        · have hu' : upB D dr = false := by rw [hu]; exact decide_eq_false (by omega)
          rw [hru false hu', if_neg (by simp)]
          exact near_down hX hr10 (.inr ⟨by omega, hr0, by rw [hm0]; rfl⟩)
        · have hne : D.take m ≠ [] := fun h => by
            have := congrArg List.length h
            rw [List.length_take, List.length_nil] at this
            omega
          have hpar : val (D.take m) % 2 = ((D.getD (m - 1) 0).toNat - 48) % 2 := by
            rw [val_odd hne, List.getLast_eq_getElem, getD_at (by omega)]
            simp only [List.length_take, List.getElem_take, show min m D.length - 1 = m - 1 by omega]
          by_cases hp : ((D.getD (m - 1) 0).toNat - 48) % 2 = 1
          · have hu' : upB D dr = true := by rw [hu]; exact decide_eq_true ⟨by omega, hp⟩
            rw [hru true hu', if_pos rfl, incL_val (hd.take m)]
            exact near_up hX hr10 (by omega) (.inr ⟨by omega, .inr (by omega)⟩)
          · have hu' : upB D dr = false := by rw [hu]; exact decide_eq_false (fun h => hp h.2)
            rw [hru false hu', if_neg (by simp)]
            exact near_down hX hr10 (.inr ⟨by omega, hr0, by omega⟩)
    · rw [if_pos h53] at hu
      by_cases hgt : 53 < D[m].toNat
      · rw [decide_eq_true hgt] at hu
        rw [hru true hu, if_pos rfl, incL_val (hd.take m)]
        exact near_up hX hr10 (by omega) (.inl (by omega))
      · rw [decide_eq_false hgt] at hu
        rw [hru false hu, if_neg (by simp)]
        exact near_down hX hr10 (.inl (by omega))

theorem laid_val (K : List UInt8) (zn dec : Nat) : val (laidOut K zn dec) = val K * 10 ^ zn := by
  unfold laidOut
  rw [val_append, val_zer, val_append, val_zer, zer_length]
  omega

/-- The law, of the numbers. sc: max dec (-ex). -/
theorem fixed_near {neg : Bool} {D : List UInt8} {ex : Int} {dec : Nat} (hs : Shape neg D ex) {sc : Nat} (hsc : (sc : Int) = max (dec : Int) (-ex)) :
    Near (val (D ++ zer (ex + (sc : Int) + 1).toNat)) (val (laidOut (kept D ex dec) (zcount ex dec) dec)) (10 ^ (sc - dec)) := by
  rw [laid_val, val_append, val_zer, zer_length, Nat.add_zero]
  unfold kept zcount kexp
  by_cases h : 0 < - (dec : Int) - ex
  · rw [if_pos h, if_pos h, show (-(dec : Int) + (dec : Int)).toNat = 0 by omega, show (ex + (sc : Int) + 1).toNat = 1 by omega]
    obtain ⟨dr, hdr⟩ : ∃ dr, dr = (-(dec : Int) - ex).toNat := ⟨_, rfl⟩
    rw [← hdr, show sc - dec = dr by omega]
    have := rnd_near (dr := dr) hs.dig hs.last (by omega)
    simpa using this
  · rw [if_neg h, if_neg h, show sc - dec = 0 by omega]
    obtain ⟨z, hz⟩ : ∃ z, z = (ex + (dec : Int)).toNat := ⟨_, rfl⟩
    rw [← hz, show (ex + (sc : Int) + 1).toNat = z + 1 by omega, Nat.pow_succ]
    refine near_down (d := 0) (r := 0) ?_ (by simp) (.inl (by omega))
    rw [← Nat.mul_assoc]
    omega

theorem rnd_noz {D : List UInt8} (hd : Dig D) (hz : NoZ D) (dr : Nat) : NoZ (rnd D dr) := by
  have ht : NoZ (D.take (D.length - dr)) := fun c r e => by
    cases D with
    | nil => simp at e
    | cons c' r' =>
      cases h : (c' :: r').length - dr with
      | zero => rw [h] at e; cases e
      | succ n =>
        rw [h, List.take_succ_cons] at e
        obtain ⟨rfl, _⟩ := List.cons.inj e
        exact hz c' r' rfl
  unfold rnd
  split
  · exact (incL_noz (hd.take _) ht).1
  · exact ht
/-- One digit before the point, or no zero ahead. -/
theorem laid_head {neg : Bool} {D : List UInt8} {ex : Int} {dec : Nat} (hs : Shape neg D ex) :
    (laidOut (kept D ex dec) (zcount ex dec) dec).length = dec + 1 ∨ NoZ (laidOut (kept D ex dec) (zcount ex dec) dec) := by
  obtain ⟨K, hK⟩ : ∃ K, K = kept D ex dec := ⟨_, rfl⟩
  obtain ⟨zn, hzn⟩ : ∃ z, z = zcount ex dec := ⟨_, rfl⟩
  rw [← hK, ← hzn]
  by_cases hp : dec + 1 ≤ (K ++ zer zn).length
  · right
    unfold laidOut padN
    rw [show dec + 1 - (K ++ zer zn).length = 0 by omega]
    have hkz : NoZ K := by
      rw [hK]
      unfold kept
      split
      · exact rnd_noz hs.dig hs.noz _
      · exact hs.noz
    show NoZ (K ++ zer zn)
    refine noz_append hkz (fun he => ?_)
    rw [he, List.nil_append, zer_length] at hp
    unfold zcount kexp at hzn
    unfold kept at hK
    by_cases h : 0 < - (dec : Int) - ex
    · rw [if_pos h] at hzn
      omega
    · rw [if_neg h] at hK hzn
      have := (hs.zero (by rw [← hK, he])).2
      omega
  · left
    unfold laidOut padN
    rw [List.length_append, zer_length]
    omega
end Go.Proofs.Qxb6601144a
