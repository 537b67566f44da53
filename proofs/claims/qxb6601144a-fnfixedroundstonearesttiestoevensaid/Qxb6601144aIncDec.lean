/-
  DERIVED. PLAIN: digits as numbers; one more, one less; comparing.
-/
import Derived.Test.Qxb6601144aHelp
import Derived.Test.Qxb6601144aBts
namespace Go.Proofs.Qxb6601144a
open Go.RowKit Go.Joins

def nin (n : Nat) : List UInt8 := List.replicate n 57
theorem nin_length (n : Nat) : (nin n).length = n := by simp [nin]
/-- All digits. -/
def Dig (l : List UInt8) : Prop := ∀ c ∈ l, 48 ≤ c.toNat ∧ c.toNat ≤ 57
theorem Dig.nil : Dig [] := fun _ h => by cases h
theorem Dig.append {a b : List UInt8} (ha : Dig a) (hb : Dig b) : Dig (a ++ b) := fun c hc => by
  rcases List.mem_append.1 hc with h | h
  · exact ha c h
  · exact hb c h
theorem Dig.zer (n : Nat) : Dig (zer n) := fun c hc => by
  have := List.eq_of_mem_replicate hc
  subst this
  decide
theorem Dig.take {l : List UInt8} (h : Dig l) (n : Nat) : Dig (l.take n) := fun c hc => h c (List.mem_of_mem_take hc)
theorem Dig.drop {l : List UInt8} (h : Dig l) (n : Nat) : Dig (l.drop n) := fun c hc => h c (List.mem_of_mem_drop hc)
theorem Dig.cons {c : UInt8} {l : List UInt8} (hc : 48 ≤ c.toNat ∧ c.toNat ≤ 57) (h : Dig l) : Dig (c :: l) := fun d hd => by
  rcases List.mem_cons.1 hd with rfl | hd
  · exact hc
  · exact h d hd
theorem Dig.tail {c : UInt8} {l : List UInt8} (h : Dig (c :: l)) : Dig l := fun d hd => h d (List.mem_cons_of_mem _ hd)
theorem Dig.head {c : UInt8} {l : List UInt8} (h : Dig (c :: l)) : 48 ≤ c.toNat ∧ c.toNat ≤ 57 := h c (List.mem_cons_self ..)
theorem Dig.strip {l : List UInt8} (h : Dig l) : Dig (strip l) := fun c hc => h c ((List.dropWhile_sublist _).mem hc)

/-- The number written. -/
def val (l : List UInt8) : Nat := l.foldl (fun a c => a * 10 + (c.toNat - 48)) 0
theorem foldl_val (l : List UInt8) : ∀ a, l.foldl (fun a c => a * 10 + (c.toNat - 48)) a = a * 10 ^ l.length + val l := by
  induction l with
  | nil => intro a; simp [val]
  | cons c r ih =>
    intro a
    unfold val
    rw [List.foldl_cons, List.foldl_cons, ih, ih (0 * 10 + (c.toNat - 48)), List.length_cons, Nat.pow_succ, Nat.zero_mul, Nat.zero_add, Nat.add_mul, Nat.add_assoc, Nat.mul_assoc, Nat.mul_comm 10]
theorem val_cons (c : UInt8) (l : List UInt8) : val (c :: l) = (c.toNat - 48) * 10 ^ l.length + val l := by
  show l.foldl _ (0 * 10 + (c.toNat - 48)) = _
  rw [foldl_val, Nat.zero_mul, Nat.zero_add]
theorem val_nil : val [] = 0 := rfl
theorem val_append (a b : List UInt8) : val (a ++ b) = val a * 10 ^ b.length + val b := by
  unfold val
  rw [List.foldl_append, foldl_val b]
  rfl
theorem val_zer (n : Nat) : val (zer n) = 0 := by
  induction n with
  | zero => rfl
  | succ n ih =>
    have : zer (n + 1) = 48 :: zer n := rfl
    rw [this, val_cons, ih]
    simp
theorem val_lt {l : List UInt8} (h : Dig l) : val l < 10 ^ l.length := by
  induction l with
  | nil => simp [val]
  | cons c r ih =>
    have := ih h.tail
    have hc := h.head
    rw [val_cons, List.length_cons, Nat.pow_succ]
    have : (c.toNat - 48) * 10 ^ r.length ≤ 9 * 10 ^ r.length := Nat.mul_le_mul_right _ (by omega)
    omega
theorem val_strip (l : List UInt8) : val (strip l) = val l := by
  induction l with
  | nil => rfl
  | cons c r ih =>
    by_cases h : isZ c = true
    · rw [strip_yes h, ih, val_cons]
      have : c.toNat = 48 := by simp [isZ] at h; omega
      rw [this]
      simp
    · rw [strip_no (by simpa using h)]
/-- No zero ahead. -/
def NoZ (l : List UInt8) : Prop := ∀ c r, l = c :: r → c.toNat ≠ 48
theorem NoZ.strip (l : List UInt8) : NoZ (strip l) := by
  induction l with
  | nil => intro c r h; cases h
  | cons c r ih =>
    by_cases h : isZ c = true
    · rw [strip_yes h]; exact ih
    · rw [strip_no (by simpa using h)]
      intro d t he hd
      obtain ⟨rfl, rfl⟩ := List.cons.inj he
      exact h (by simp [isZ, hd])
theorem val_ge {l : List UInt8} (h : Dig l) (hz : NoZ l) (hne : l ≠ []) : 10 ^ (l.length - 1) ≤ val l := by
  cases l with
  | nil => exact absurd rfl hne
  | cons c r =>
    have hc := h.head
    have hc0 := hz c r rfl
    rw [val_cons, List.length_cons, Nat.add_sub_cancel]
    have : 1 * 10 ^ r.length ≤ (c.toNat - 48) * 10 ^ r.length := Nat.mul_le_mul_right _ (by omega)
    omega
theorem strip_noz {l : List UInt8} (h : NoZ l) : Qxb6601144a.strip l = l := by
  cases l with
  | nil => rfl
  | cons c r =>
    have := h c r rfl
    exact strip_no (by simp [isZ]; omega)
theorem strip_zer (n : Nat) : strip (zer n) = [] := by
  induction n with
  | zero => rfl
  | succ n ih =>
    have : zer (n + 1) = 48 :: zer n := rfl
    rw [this, strip_yes (by decide), ih]
theorem strip_zer_append (n : Nat) (l : List UInt8) : strip (zer n ++ l) = strip l := by
  induction n with
  | zero => rfl
  | succ n ih =>
    have : zer (n + 1) ++ l = 48 :: (zer n ++ l) := rfl
    rw [this, strip_yes (by decide), ih]
theorem strip_nil_iff {l : List UInt8} (h : Dig l) : strip l = [] ↔ val l = 0 := by
  refine ⟨fun he => by rw [← val_strip, he]; rfl, fun hv => ?_⟩
  by_cases hne : strip l = []
  · exact hne
  · have := val_ge h.strip (NoZ.strip l) hne
    rw [val_strip, hv] at this
    have : 0 < 10 ^ ((strip l).length - 1) := Nat.pow_pos (by omega)
    omega

/-! ### One more -/
def incC : List UInt8 → Bool × List UInt8
  | [] => (true, [])
  | c :: r => if (incC r).1 then (if c.toNat = 57 then (true, 48 :: (incC r).2) else (false, (c + 1) :: (incC r).2)) else (false, c :: (incC r).2)
def incL (l : List UInt8) : List UInt8 := if (incC l).1 then 49 :: (incC l).2 else (incC l).2
theorem inc_all {t : List UInt8} (h : ∀ c ∈ t, c.toNat = 57) : incC t = (true, zer t.length) := by
  induction t with
  | nil => rfl
  | cons c r ih =>
    have ih' := ih (fun d hd => h d (List.mem_cons_of_mem _ hd))
    rw [incC, ih', if_pos rfl, if_pos (h c (List.mem_cons_self ..))]
    rfl
theorem inc_stop {a t : List UInt8} {c : UInt8} (hc : c.toNat ≠ 57) (h : ∀ d ∈ t, d.toNat = 57) : incC (a ++ c :: t) = (false, a ++ (c + 1) :: zer t.length) := by
  induction a with
  | nil => rw [List.nil_append, incC, inc_all h, if_pos rfl, if_neg hc]; rfl
  | cons d a ih => rw [List.cons_append, incC, ih, if_neg (by simp)]; rfl
theorem incL_all {t : List UInt8} (h : ∀ c ∈ t, c.toNat = 57) : incL t = 49 :: zer t.length := by unfold incL; rw [inc_all h]; rfl
theorem incL_stop {a t : List UInt8} {c : UInt8} (hc : c.toNat ≠ 57) (h : ∀ d ∈ t, d.toNat = 57) : incL (a ++ c :: t) = a ++ (c + 1) :: zer t.length := by unfold incL; rw [inc_stop hc h]; rfl
theorem succ_toNat {c : UInt8} (h : c.toNat ≤ 254) : (c + 1).toNat = c.toNat + 1 := by
  rw [UInt8.toNat_add]
  show (c.toNat + 1) % 256 = _
  omega
theorem incC_spec : ∀ {l : List UInt8}, Dig l → (incC l).2.length = l.length ∧ Dig (incC l).2 ∧ (if (incC l).1 then 10 ^ l.length else 0) + val (incC l).2 = val l + 1
  | [], _ => ⟨rfl, Dig.nil, rfl⟩
  | c :: r, h => by
    obtain ⟨i1, i2, i3⟩ := incC_spec h.tail
    have hc := h.head
    rw [incC]
    by_cases hb : (incC r).1 = true
    · rw [if_pos hb] at i3
      rw [if_pos hb]
      by_cases h57 : c.toNat = 57
      · rw [if_pos h57]
        refine ⟨by simp [i1], i2.cons (by decide), ?_⟩
        rw [if_pos rfl, val_cons, val_cons, List.length_cons, Nat.pow_succ, h57, i1]
        have e : ((48 : UInt8).toNat - 48) = 0 := by decide
        rw [e]
        omega
      · rw [if_neg h57]
        have hs := succ_toNat (c := c) (by omega)
        refine ⟨by simp [i1], i2.cons (by omega), ?_⟩
        rw [if_neg (by simp), val_cons, val_cons, i1, hs]
        have e : c.toNat + 1 - 48 = (c.toNat - 48) + 1 := by omega
        rw [e, Nat.add_mul, Nat.one_mul]
        omega
    · rw [if_neg hb] at i3
      rw [if_neg hb]
      refine ⟨by simp [i1], i2.cons hc, ?_⟩
      rw [if_neg (by simp), val_cons, val_cons, i1]
      omega
theorem incL_val {l : List UInt8} (h : Dig l) : val (incL l) = val l + 1 := by
  obtain ⟨i1, i2, i3⟩ := incC_spec h
  unfold incL
  by_cases hb : (incC l).1 = true
  · rw [if_pos hb] at i3 ⊢
    rw [val_cons, i1]
    have e : ((49 : UInt8).toNat - 48) = 1 := by decide
    rw [e]
    omega
  · rw [if_neg hb] at i3 ⊢
    omega
theorem incL_dig {l : List UInt8} (h : Dig l) : Dig (incL l) := by
  obtain ⟨i1, i2, i3⟩ := incC_spec h
  unfold incL
  split
  · exact i2.cons (by decide)
  · exact i2
theorem incC_head {c : UInt8} {r : List UInt8} (hc : c.toNat ≠ 48) (hd : 48 ≤ c.toNat ∧ c.toNat ≤ 57) (hb : (incC (c :: r)).1 = false) : NoZ (incC (c :: r)).2 := by
  rw [incC] at hb ⊢
  by_cases h1 : (incC r).1 = true
  · rw [if_pos h1] at hb ⊢
    by_cases h57 : c.toNat = 57
    · rw [if_pos h57] at hb; cases hb
    · rw [if_neg h57]
      intro d t he
      obtain ⟨rfl, rfl⟩ := List.cons.inj he
      rw [succ_toNat (by omega)]
      omega
  · rw [if_neg h1]
    intro d t he
    obtain ⟨rfl, rfl⟩ := List.cons.inj he
    exact hc
theorem incL_noz {l : List UInt8} (h : Dig l) (hz : NoZ l) : NoZ (incL l) ∧ incL l ≠ [] := by
  unfold incL
  by_cases hb : (incC l).1 = true
  · rw [if_pos hb]
    refine ⟨fun d t he => ?_, by simp⟩
    obtain ⟨rfl, rfl⟩ := List.cons.inj he
    decide
  · rw [if_neg hb]
    cases l with
    | nil => exact absurd rfl hb
    | cons c r =>
      refine ⟨incC_head (hz c r rfl) h.head (by simpa using hb), fun he => ?_⟩
      have := (incC_spec h).1
      rw [he] at this
      cases this

/-! ### One less -/
def decC : List UInt8 → Bool × List UInt8
  | [] => (true, [])
  | c :: r => if (decC r).1 then (if c.toNat = 48 then (true, 57 :: (decC r).2) else (false, (c - 1) :: (decC r).2)) else (false, c :: (decC r).2)
theorem dec_all {t : List UInt8} (h : ∀ c ∈ t, c.toNat = 48) : decC t = (true, nin t.length) := by
  induction t with
  | nil => rfl
  | cons c r ih =>
    have ih' := ih (fun d hd => h d (List.mem_cons_of_mem _ hd))
    rw [decC, ih', if_pos rfl, if_pos (h c (List.mem_cons_self ..))]
    rfl
theorem dec_stop {a t : List UInt8} {c : UInt8} (hc : c.toNat ≠ 48) (h : ∀ d ∈ t, d.toNat = 48) : decC (a ++ c :: t) = (false, a ++ (c - 1) :: nin t.length) := by
  induction a with
  | nil => rw [List.nil_append, decC, dec_all h, if_pos rfl, if_neg hc]; rfl
  | cons d a ih => rw [List.cons_append, decC, ih, if_neg (by simp)]; rfl
theorem pred_toNat {c : UInt8} (h : 1 ≤ c.toNat) : (c - 1).toNat = c.toNat - 1 := by
  have hle : (1 : UInt8) ≤ c := by rw [UInt8.le_iff_toNat_le]; exact h
  rw [UInt8.toNat_sub_of_le _ _ hle]
  rfl
theorem decC_spec : ∀ {l : List UInt8}, Dig l → (decC l).2.length = l.length ∧ Dig (decC l).2 ∧ val (decC l).2 + 1 = val l + (if (decC l).1 then 10 ^ l.length else 0)
  | [], _ => ⟨rfl, Dig.nil, rfl⟩
  | c :: r, h => by
    obtain ⟨i1, i2, i3⟩ := decC_spec h.tail
    have hc := h.head
    rw [decC]
    by_cases hb : (decC r).1 = true
    · rw [if_pos hb] at i3
      rw [if_pos hb]
      by_cases h48 : c.toNat = 48
      · rw [if_pos h48]
        refine ⟨by simp [i1], i2.cons (by decide), ?_⟩
        rw [if_pos rfl, val_cons, val_cons, List.length_cons, Nat.pow_succ, h48, i1]
        have e : ((57 : UInt8).toNat - 48) = 9 := by decide
        rw [e]
        omega
      · rw [if_neg h48]
        have hs := pred_toNat (c := c) (by omega)
        refine ⟨by simp [i1], i2.cons (by omega), ?_⟩
        rw [if_neg (by simp), val_cons, val_cons, i1, hs]
        have e : c.toNat - 48 = (c.toNat - 1 - 48) + 1 := by omega
        rw [e, Nat.add_mul, Nat.one_mul]
        omega
    · rw [if_neg hb] at i3
      rw [if_neg hb]
      refine ⟨by simp [i1], i2.cons hc, ?_⟩
      rw [if_neg (by simp), val_cons, val_cons, i1]
      omega
theorem decL_val {l : List UInt8} (h : Dig l) (hz : NoZ l) (hne : l ≠ []) : val (strip (decC l).2) + 1 = val l := by
  obtain ⟨i1, i2, i3⟩ := decC_spec h
  rw [val_strip]
  by_cases hb : (decC l).1 = true
  · rw [if_pos hb] at i3
    have hv := val_lt i2
    rw [i1] at hv
    have := val_ge h hz hne
    have : 0 < 10 ^ (l.length - 1) := Nat.pow_pos (by omega)
    omega
  · rw [if_neg hb] at i3
    omega

/-! ### Comparing -/
def lexc : List UInt8 → List UInt8 → Int
  | c :: r, d :: t => if c.toNat = d.toNat then lexc r t else if c.toNat < d.toNat then -1 else 1
  | _, _ => 0
def cmpL (a b : List UInt8) : Int := if a.length < b.length then -1 else if b.length < a.length then 1 else lexc a b
def sgnc (x y : Nat) : Int := if x < y then -1 else if x = y then 0 else 1
theorem sgnc_add (k x y : Nat) : sgnc (k + x) (k + y) = sgnc x y := by simp [sgnc]
theorem lexc_val : ∀ {a b : List UInt8}, Dig a → Dig b → a.length = b.length → lexc a b = sgnc (val a) (val b)
  | [], [], _, _, _ => rfl
  | [], _ :: _, _, _, h => by cases h
  | _ :: _, [], _, _, h => by cases h
  | c :: r, d :: t, ha, hb, h => by
    have hl : r.length = t.length := by simpa using h
    have ih := lexc_val ha.tail hb.tail hl
    have h1 := val_lt ha.tail
    have h2 := val_lt hb.tail
    have hc := ha.head
    have hd := hb.head
    rw [lexc]
    rw [val_cons, val_cons, ← hl]
    rw [← hl] at h2
    by_cases he : c.toNat = d.toNat
    · rw [if_pos he, ih, he, sgnc_add]
    · rw [if_neg he]
      by_cases hlt : c.toNat < d.toNat
      · rw [if_pos hlt]
        have : (c.toNat - 48 + 1) * 10 ^ r.length ≤ (d.toNat - 48) * 10 ^ r.length := Nat.mul_le_mul_right _ (by omega)
        rw [Nat.add_mul, Nat.one_mul] at this
        unfold sgnc
        rw [if_pos (by omega)]
      · rw [if_neg hlt]
        have : (d.toNat - 48 + 1) * 10 ^ r.length ≤ (c.toNat - 48) * 10 ^ r.length := Nat.mul_le_mul_right _ (by omega)
        rw [Nat.add_mul, Nat.one_mul] at this
        unfold sgnc
        rw [if_neg (by omega), if_neg (by omega)]
theorem val_len_lt {a b : List UInt8} (ha : Dig a) (hb : Dig b) (hz : NoZ b) (h : a.length < b.length) : val a < val b := by
  have h1 := val_lt ha
  have h2 := val_ge hb hz (fun e => by rw [e] at h; simp at h)
  have h3 : 10 ^ a.length ≤ 10 ^ (b.length - 1) := Nat.pow_le_pow_right (by omega) (by omega)
  omega
theorem cmpL_val {a b : List UInt8} (ha : Dig a) (hb : Dig b) (za : NoZ a) (zb : NoZ b) : cmpL a b = sgnc (val a) (val b) := by
  unfold cmpL
  by_cases h1 : a.length < b.length
  · rw [if_pos h1]
    have := val_len_lt ha hb zb h1
    unfold sgnc
    rw [if_pos this]
  · rw [if_neg h1]
    by_cases h2 : b.length < a.length
    · rw [if_pos h2]
      have := val_len_lt hb ha za h2
      unfold sgnc
      rw [if_neg (by omega), if_neg (by omega)]
    · rw [if_neg h2]
      exact lexc_val ha hb (by omega)
end Go.Proofs.Qxb6601144a
