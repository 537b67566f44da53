/-
  DERIVED. What the rounding law's walk takes as given, proved.
-/
import Derived.Test.Qxb6601144aLawR
namespace Go.Proofs.Qxb6601144a
open Go.RowKit Go.Joins

theorem half_val (l : List UInt8) (k : Nat) : val (strip (l ++ [53] ++ zer k)) = (10 * val l + 5) * 10 ^ k := by
  rw [val_strip, val_append, val_zer, val_append, zer_length, val_cons, val_nil, Nat.add_zero]
  congr 1
  show val l * 10 ^ 1 + ((53 : UInt8).toNat - 48) * 10 ^ 0 + 0 = _
  have : (53 : UInt8).toNat = 53 := by decide
  rw [this]
  omega
theorem half_dig {l : List UInt8} (h : Dig l) (k : Nat) : Dig (strip (l ++ [53] ++ zer k)) := ((h.append (Dig.nil.cons (by decide))).append (Dig.zer k)).strip
theorem half_data (l : List UInt8) (k : Nat) : (str l ++ ⟨#[53]⟩ ++ str (zer k)).data.toList = l ++ [53] ++ zer k := by
  rw [data_append, data_append, str_data, str_data]
theorem half_size (l : List UInt8) (k : Nat) : (str l ++ ⟨#[53]⟩ ++ str (zer k)).size = l.length + 1 + k := by
  rw [Lib.size_eq, half_data, List.length_append, List.length_append, zer_length]
  rfl
theorem sgnc_le {x y : Nat} (h : x ≤ y) : sgnc x y = -1 ∨ (sgnc x y = 0 ∧ x = y) := by
  unfold sgnc
  by_cases h1 : x < y
  · left; rw [if_pos h1]
  · right; rw [if_neg h1, if_pos (by omega)]; exact ⟨rfl, by omega⟩
theorem sgnc_ge {x y : Nat} (h : y ≤ x) : sgnc x y = 1 ∨ (sgnc x y = 0 ∧ x = y) := by
  unfold sgnc
  rw [if_neg (by omega)]
  by_cases h1 : x = y
  · right; rw [if_pos h1]; exact ⟨rfl, h1⟩
  · left; rw [if_neg h1]

theorem tail_of {WL XL : List UInt8} (kk : Nat) (hW : Dig WL) (hWl : WL.length ≤ 300000) (hk : kk ≤ 200000) (hX : Dig XL) (hXl : XL.length ≤ 300000) (hXz : NoZ XL)
    (hN : Near (val XL) (val WL) (10 ^ kk)) : Tail (str (strip WL)) (str XL) (str (zer kk)) (cmpL XL (strip (strip WL ++ [53] ++ zer kk))) := by
  have hc1 := cmpL_val hX (half_dig hW.strip kk) hXz (NoZ.strip _)
  have hsl : (strip WL).length ≤ WL.length := (List.dropWhile_sublist _).length_le
  rw [half_val, val_strip] at hc1
  rw [hc1]
  obtain ⟨h1, h2, h3, h4⟩ := hN
  by_cases hn : strip WL = []
  · left
    refine ⟨by rw [hn, Lib.toList_data, str_data]; rfl, ?_⟩
    rcases sgnc_le h1 with h | ⟨h, _⟩
    · exact .inl h
    · exact .inr h
  · right
    have hNp : 0 < val WL := by
      rcases Nat.eq_zero_or_pos (val WL) with h | h
      · exact absurd ((strip_nil_iff hW).2 h) hn
      · exact h
    have hdd := hW.strip _ (List.getLast_mem hn)
    have hev : val WL % 2 = 0 → ((((strip WL).getLast hn).toNat : Int) - 48) % 2 == 0 := fun h => by
      have := val_odd hn
      rw [val_strip, h] at this
      simp
      omega
    have hlen : 0 < (strip WL).length := List.length_pos_iff.2 hn
    refine ⟨?_, (strip WL).getLast hn, hdd.1, hdd.2, ⟨by rw [str_size]; omega, ?_⟩, ?_⟩
    · rw [Lib.toList_data, str_data]
      cases h : strip WL with
      | nil => exact absurd h hn
      | cons => rfl
    · rw [List.getLast_eq_getElem]
      have e : ∀ (n : Nat) (h : n < (str (strip WL)).size) (h' : (strip WL).length - 1 < (strip WL).length), n = (strip WL).length - 1 → (str (strip WL))[n] = (strip WL)[(strip WL).length - 1] := fun n h h' hn => by
        subst hn
        rfl
      exact e _ _ _ (by rw [str_size])
    · rcases sgnc_le h1 with h | ⟨h, hx⟩
      · right
        have hdv := decL_val hW.strip (NoZ.strip WL) hn
        rw [val_strip WL] at hdv
        obtain ⟨dL, hdL⟩ : ∃ l, l = strip (decC (strip WL)).2 := ⟨_, rfl⟩
        have hdl : dL.length ≤ 300000 := by
          have i1 := (decC_spec hW.strip).1
          have : dL.length ≤ (decC (strip WL)).2.length := by rw [hdL]; exact (List.dropWhile_sublist _).length_le
          omega
        have hdg : Dig dL := by rw [hdL]; exact (decC_spec hW.strip).2.1.strip
        have hc2 := cmpL_val hX (half_dig hdg kk) hXz (NoZ.strip _)
        rw [half_val] at hc2
        rw [← hdL] at hdv
        rw [show val dL = val WL - 1 by omega] at hc2
        have hll : (strip (dL ++ [53] ++ zer kk)).length ≤ 600000 := by
          have : (strip (dL ++ [53] ++ zer kk)).length ≤ (dL ++ [53] ++ zer kk).length := (List.dropWhile_sublist _).length_le
          rw [List.length_append, List.length_append, zer_length, List.length_singleton] at this
          omega
        refine ⟨h, str dL, str (strip (dL ++ [53] ++ zer kk)), _, by rw [str_size]; omega, fun w => by rw [hdL]; exact decrement_any (strip WL) hW.strip (NoZ.strip _) hn (by omega) w,
          fun w => strip_any _ _ (by rw [half_data]) (by rw [half_size]; omega) w,
          fun w => cmp_any _ _ _ (by rw [str_data, str_data, hc2]) (by rw [str_size]; omega) (by rw [str_size]; omega) w, ?_⟩
        rcases sgnc_ge (h3 hNp) with h' | ⟨h', hx⟩
        · exact .inl h'
        · exact .inr ⟨h', hev (h4 hNp hx)⟩
      · exact .inl ⟨h, hev (h2 hx)⟩

/-! ### The text -/
theorem sgn_len (neg : Bool) : (sgnL neg).length = if neg then 1 else 0 := by cases neg <;> rfl
theorem shown_at (neg : Bool) {WL : List UInt8} {ip dec : Nat} (hip : WL.length - dec = ip) (hd : Dig WL) (m : Nat) (h : m < (str (shown neg WL dec)).size) (h0 : (sgnL neg).length ≤ m) (h1 : m < (sgnL neg).length + ip) :
    isD ((str (shown neg WL dec))[m]) = true := by
  have hm : m < (shown neg WL dec).length := by rw [← str_size]; exact h
  have hl : (WL.take ip).length = ip := by rw [List.length_take]; omega
  have e2 : (shown neg WL dec)[m] = (WL.take ip)[m - (sgnL neg).length]'(by omega) := by
    simp only [shown, hip]
    rw [List.getElem_append_left (by rw [List.length_append, hl]; exact h1), List.getElem_append_right h0]
  show isD ((shown neg WL dec)[m]'hm) = true
  rw [e2]
  have := hd.take ip _ (List.getElem_mem (l := WL.take ip) (n := m - (sgnL neg).length) (by omega))
  exact isD_yes this.1 this.2
theorem shown_dot (neg : Bool) {WL : List UInt8} {ip dec : Nat} (hip : WL.length - dec = ip) (hd : 0 < dec) : ∃ h : (sgnL neg).length + ip < (str (shown neg WL dec)).size, ((str (shown neg WL dec))[(sgnL neg).length + ip]).toNat = 46 := by
  have hl : (WL.take ip).length = ip := by rw [List.length_take]; omega
  have e : shown neg WL dec = (sgnL neg ++ WL.take ip) ++ 46 :: WL.drop ip := by unfold shown; rw [hip, if_pos hd]
  have hlt : (sgnL neg).length + ip < (shown neg WL dec).length := by rw [e, List.length_append, List.length_append, hl, List.length_cons]; omega
  refine ⟨by rw [str_size]; exact hlt, ?_⟩
  have e1 : (str (shown neg WL dec))[(sgnL neg).length + ip]'(by rw [str_size]; exact hlt) = (shown neg WL dec)[(sgnL neg).length + ip] := rfl
  rw [e1]
  simp only [e]
  rw [List.getElem_append_right (by rw [List.length_append, hl]; omega)]
  simp only [List.length_append, hl, Nat.sub_self, List.getElem_cons_zero]
  rfl
theorem shown_size (neg : Bool) {WL : List UInt8} {ip dec : Nat} (hip : WL.length - dec = ip) (hl : dec ≤ WL.length) : (str (shown neg WL dec)).size = (sgnL neg).length + ip + (if 0 < dec then dec + 1 else 0) := by
  rw [str_size]
  unfold shown
  rw [hip, List.length_append, List.length_append, List.length_take]
  split
  · rw [List.length_cons, List.length_drop]; omega
  · rw [List.length_nil]; omega
theorem shown_int (neg : Bool) {WL : List UInt8} {ip dec : Nat} (hip : WL.length - dec = ip) : (str (shown neg WL dec)).extract (sgnL neg).length ((sgnL neg).length + ip) = str (WL.take ip) := by
  have hl : (WL.take ip).length = ip := by rw [List.length_take]; omega
  rw [extract_str, str_data]
  congr 1
  unfold shown
  rw [hip, List.append_assoc, List.drop_left, Nat.add_sub_cancel_left]
  exact List.take_left' hl
theorem shown_frac (neg : Bool) {WL : List UInt8} {ip dec : Nat} (hip : WL.length - dec = ip) (hd : 0 < dec) : (str (shown neg WL dec)).extract ((sgnL neg).length + ip + 1) (str (shown neg WL dec)).size = str (WL.drop ip) := by
  have hl : (WL.take ip).length = ip := by rw [List.length_take]; omega
  have e : shown neg WL dec = (sgnL neg ++ WL.take ip ++ [46]) ++ WL.drop ip := by
    unfold shown
    rw [hip, if_pos hd, List.append_assoc (sgnL neg ++ WL.take ip)]
    rfl
  rw [extract_str, str_data, str_size]
  congr 1
  rw [e, List.drop_left' (by rw [List.length_append, List.length_append, hl]; rfl)]
  refine List.take_of_length_le ?_
  rw [List.length_append, List.length_append, List.length_append, hl]
  simp
end Go.Proofs.Qxb6601144a
