/-
  DERIVED. THE PLAIN LAW of FnScanNumberMatchesSplitGrammar: reading from the left is the same as splitting at the first 'e' or 'E'.
-/
import Derived.Test.Qxb6601144aScanAll
import Derived.Test.Qxb6601144aHelp
namespace Go.Proofs.Qxb6601144a
open Go.RowKit Go.Joins

def isE (c : UInt8) : Bool := (c.toNat : Int) == 101 || (c.toNat : Int) == 69
def mant (l : List UInt8) : List UInt8 := l.takeWhile fun c => !isE c
def rest (l : List UInt8) : List UInt8 := l.drop (mant l).length
def hasE (l : List UInt8) : Bool := decide ((mant l).length < l.length)
def exs (l : List UInt8) : List UInt8 := l.drop ((mant l).length + 1)
def m1 (l : List UInt8) : List UInt8 := (mant l).drop (sg (mant l))
/-- Digits and at most one point? -/
def chk : Bool → List UInt8 → Bool
  | _, [] => true
  | d, c :: r => if c.toNat = 46 then (if d then false else chk true r) else if isD c then chk d r else false
def ipt (m : List UInt8) : List UInt8 := m.takeWhile fun c => !((c.toNat : Int) == 46)
def fpt (m : List UInt8) : List UInt8 := m.drop ((ipt m).length + 1)
def f10 (l : List UInt8) : Int := l.foldl (fun a c => a * 10 + ((c.toNat : Int) - 48)) 0
def xval (x : List UInt8) : Int := if ng x then - f10 ((strip (x.drop (sg x))).take 9) else f10 ((strip (x.drop (sg x))).take 9)
def fail4 : Bool × List UInt8 × List UInt8 × Int := (false, [], [], 0)
def model (l : List UInt8) : Bool × List UInt8 × List UInt8 × Int :=
  if chk false (m1 l) = false then fail4 else if ipt (m1 l) = [] ∧ fpt (m1 l) = [] then fail4
  else if hasE l then (if (exs l).drop (sg (exs l)) = [] ∨ ((exs l).drop (sg (exs l))).all isD = false then fail4 else (true, ipt (m1 l), fpt (m1 l), xval (exs l)))
  else (true, ipt (m1 l), fpt (m1 l), 0)

/-! ### The split -/
theorem takeWhile_all {p : UInt8 → Bool} : ∀ (l : List UInt8), ∀ c ∈ l.takeWhile p, p c = true
  | [], c, h => by cases h
  | a :: l, c, h => by
    rw [List.takeWhile_cons] at h
    by_cases ha : p a = true
    · rw [if_pos ha] at h
      rcases List.mem_cons.1 h with rfl | h
      · exact ha
      · exact takeWhile_all l c h
    · rw [if_neg ha] at h; cases h
theorem drop_takeWhile {p : UInt8 → Bool} : ∀ (l : List UInt8), l.drop (l.takeWhile p).length = [] ∨ ∃ c r, l.drop (l.takeWhile p).length = c :: r ∧ p c = false
  | [] => .inl rfl
  | a :: l => by
    rw [List.takeWhile_cons]
    by_cases ha : p a = true
    · rw [if_pos ha]
      simpa using drop_takeWhile l
    · rw [if_neg ha]
      exact .inr ⟨a, l, rfl, by simpa using ha⟩
theorem mant_rest (l : List UInt8) : mant l ++ rest l = l := by
  have h := List.prefix_iff_eq_take.1 (List.takeWhile_prefix (fun c => !isE c) (l := l))
  unfold rest
  conv => lhs; lhs; unfold mant; rw [h]
  exact List.take_append_drop _ _
theorem rest_head (l : List UInt8) : rest l = [] ∨ ∃ c r, rest l = c :: r ∧ isE c = true := by
  rcases drop_takeWhile (p := fun c => !isE c) l with h | ⟨c, r, h, hc⟩
  · exact .inl h
  · exact .inr ⟨c, r, h, by simpa using hc⟩
theorem mant_noE (l : List UInt8) : ∀ c ∈ mant l, isE c = false := fun c hc => by simpa using takeWhile_all _ c hc
theorem isE_iff {c : UInt8} : isE c = true ↔ c.toNat = 101 ∨ c.toNat = 69 := by simp [isE]; omega
theorem isE_noD {c : UInt8} (h : isE c = true) : isD c = false ∧ c.toNat ≠ 46 ∧ c.toNat ≠ 43 ∧ c.toNat ≠ 45 := by
  rw [isE_iff] at h
  exact ⟨isD_no.2 (by omega), by omega, by omega, by omega⟩

theorem sg_mant (l : List UInt8) : sg (mant l) = sg l := by
  cases l with
  | nil => rfl
  | cons c r =>
    unfold mant
    rw [List.takeWhile_cons]
    by_cases h : isE c = true
    · rw [if_neg (by simp [h])]
      have := isE_noD h
      rw [sg_cons_no (by omega)]
      rfl
    · rw [if_pos (by simpa using h)]
      rfl
theorem split_sign (l : List UInt8) : l.drop (sg l) = m1 l ++ rest l := by
  have h := mant_rest l
  have hle : sg l ≤ (mant l).length := by rw [← sg_mant]; exact sg_le _
  have h2 : (mant l ++ rest l).drop (sg l) = (mant l).drop (sg l) ++ rest l := List.drop_append_of_le_length hle
  rw [h] at h2
  rw [h2, m1, sg_mant]

/-! ### Reading on behind the mantissa -/
theorem dgs_append {m t : List UInt8} (ht : t = [] ∨ ∃ c r, t = c :: r ∧ isD c = false) : dgs (m ++ t) = dgs m := by
  induction m with
  | nil =>
    rcases ht with rfl | ⟨c, r, rfl, hc⟩
    · rfl
    · exact dgs_cons_no hc
  | cons a m ih =>
    by_cases ha : isD a = true
    · rw [List.cons_append, dgs_cons_yes ha, dgs_cons_yes ha, ih]
    · have ha' : isD a = false := by simpa using ha
      rw [List.cons_append, dgs_cons_no ha', dgs_cons_no ha']
theorem rst_append {m t : List UInt8} (ht : t = [] ∨ ∃ c r, t = c :: r ∧ isD c = false) : rst (m ++ t) = rst m ++ t := by
  unfold rst
  rw [dgs_append ht]
  exact List.drop_append_of_le_length (dgs_le m)
theorem rst_yes {c : UInt8} {r : List UInt8} (h : isD c = true) : rst (c :: r) = rst r := by unfold rst; rw [dgs_cons_yes h]; rfl
theorem rst_no {c : UInt8} {r : List UInt8} (h : isD c = false) : rst (c :: r) = c :: r := by unfold rst; rw [dgs_cons_no h]; rfl
theorem dt_append {m t : List UInt8} (ht : dt t = false) : dt (m ++ t) = dt m := by
  cases m with
  | nil => exact ht
  | cons => rfl
theorem dgs_rst (m : List UInt8) : dgs m ++ rst m = m := by
  unfold rst
  conv => lhs; lhs; rw [dgs_take m]
  exact List.take_append_drop _ _
theorem dgs_of_rst {m : List UInt8} (h : rst m = []) : dgs m = m := by
  have := dgs_rst m
  rw [h, List.append_nil] at this
  exact this

theorem drop1_append {m t : List UInt8} (h : dt m = true) : (m ++ t).drop 1 = m.drop 1 ++ t := by
  cases m with
  | nil => cases h
  | cons => rfl
theorem frc_append {m t : List UInt8} (ht : t = [] ∨ ∃ c r, t = c :: r ∧ isD c = false) (hd : dt t = false) : frc (m ++ t) = frc m := by
  unfold frc
  rw [dt_append hd]
  by_cases h : dt m = true
  · rw [if_pos h, if_pos h, drop1_append h, dgs_append ht]
  · rw [if_neg h, if_neg h]
theorem aft_append {m t : List UInt8} (ht : t = [] ∨ ∃ c r, t = c :: r ∧ isD c = false) (hd : dt t = false) : aft (m ++ t) = aft m ++ t := by
  unfold aft
  rw [dt_append hd]
  by_cases h : dt m = true
  · rw [if_pos h, if_pos h, drop1_append h, rst_append ht]
  · rw [if_neg h, if_neg h]

theorem dt_iff {c : UInt8} {r : List UInt8} : dt (c :: r) = true ↔ c.toNat = 46 := by simp [dt]

theorem chk_true : ∀ r : List UInt8, chk true r = true ↔ rst r = []
  | [] => by simp [chk, rst]
  | c :: r => by
    by_cases h46 : c.toNat = 46
    · have hD : isD c = false := isD_no.2 (by omega)
      rw [chk, if_pos h46, if_pos rfl, rst_no hD]
      simp
    · rw [chk, if_neg h46]
      by_cases hD : isD c = true
      · rw [if_pos hD, rst_yes hD]
        exact chk_true r
      · have hD' : isD c = false := by simpa using hD
        rw [if_neg hD, rst_no hD']
        simp
theorem chk_false : ∀ m : List UInt8, (chk false m = true ↔ aft (rst m) = []) ∧ (aft (rst m) = [] → ipt m = dgs m ∧ fpt m = frc (rst m))
  | [] => ⟨by simp [chk, rst, aft, dt], fun _ => ⟨rfl, by simp [fpt, ipt, frc, rst, dt]⟩⟩
  | c :: r => by
    by_cases h46 : c.toNat = 46
    · have hD : isD c = false := isD_no.2 (by omega)
      have hdt : dt (c :: r) = true := dt_iff.2 h46
      have hip : ipt (c :: r) = [] := by unfold ipt; rw [List.takeWhile_cons, if_neg (by simp; omega)]
      rw [chk, if_pos h46, if_neg (by simp), rst_no hD]
      unfold aft frc fpt
      rw [if_pos hdt, if_pos hdt, hip, dgs_cons_no hD]
      refine ⟨chk_true r, fun h => ⟨rfl, ?_⟩⟩
      exact (dgs_of_rst h).symm
    · have hip : ipt (c :: r) = c :: ipt r := by unfold ipt; rw [List.takeWhile_cons, if_pos (by simp; omega)]
      rw [chk, if_neg h46]
      by_cases hD : isD c = true
      · obtain ⟨i1, i2⟩ := chk_false r
        rw [if_pos hD, rst_yes hD]
        refine ⟨i1, fun h => ?_⟩
        obtain ⟨a, b⟩ := i2 h
        refine ⟨by rw [hip, dgs_cons_yes hD, a], ?_⟩
        rw [← b]
        unfold fpt
        rw [hip]
        rfl
      · have hD' : isD c = false := by simpa using hD
        have hdt : dt (c :: r) = false := by
          cases hh : dt (c :: r) with
          | false => rfl
          | true => exact absurd (dt_iff.1 hh) h46
        rw [if_neg hD, rst_no hD']
        unfold aft
        rw [if_neg (by simp [hdt])]
        exact ⟨by simp, fun h => by cases h⟩

theorem rst_mem {m : List UInt8} {c : UInt8} (h : c ∈ rst m) : c ∈ m := List.mem_of_mem_drop h
theorem aft_mem {m : List UInt8} {c : UInt8} (h : c ∈ aft m) : c ∈ m := by
  unfold aft at h
  split at h
  · exact List.mem_of_mem_drop (rst_mem h)
  · exact h

/-! ### The exponent -/
theorem foldl_hi (l : List UInt8) {a : Int} (h : ¬ a < 100000000) : l.foldl stp a = a := by
  induction l with
  | nil => rfl
  | cons c r ih => rw [List.foldl_cons, stp_hi h, ih]
theorem foldl_lo : ∀ (l : List UInt8) (j : Nat) (a : Int), j ≤ 8 → 10 ^ j ≤ a → a < 10 ^ (j + 1) → (∀ c ∈ l, 48 ≤ c.toNat ∧ c.toNat ≤ 57) →
    l.foldl stp a = (l.take (8 - j)).foldl (fun a c => a * 10 + ((c.toNat : Int) - 48)) a
  | [], j, a, _, _, _, _ => by simp
  | c :: r, j, a, hj, h0, h1, hd => by
    by_cases h8 : j = 8
    · subst h8
      rw [foldl_hi _ (by omega)]
      rfl
    · have hc := hd c (List.mem_cons_self ..)
      have ha : a < 100000000 := by
        have h := Int.ofNat_le.2 (Nat.pow_le_pow_right (n := 10) (by omega) (show j + 1 ≤ 8 by omega))
        rw [Int.natCast_pow, Int.natCast_pow] at h
        have h' : (10 : Int) ^ (j + 1) ≤ 10 ^ 8 := h
        omega
      have e1 : (10 : Int) ^ (j + 1) = 10 ^ j * 10 := Int.pow_succ ..
      have e2 : (10 : Int) ^ (j + 1 + 1) = 10 ^ (j + 1) * 10 := Int.pow_succ ..
      have ih := foldl_lo r (j + 1) (a * 10 + ((c.toNat : Int) - 48)) (by omega) (by omega) (by omega) (fun c hc => hd c (List.mem_cons_of_mem _ hc))
      have e3 : 8 - j = (8 - (j + 1)) + 1 := by omega
      rw [List.foldl_cons, stp_lo ha, ih, e3, List.take_succ_cons, List.foldl_cons]
theorem expo_eq : ∀ {e : List UInt8}, (∀ c ∈ e, 48 ≤ c.toNat ∧ c.toNat ≤ 57) → expo e = f10 ((strip e).take 9)
  | [], _ => rfl
  | c :: r, hd => by
    have hc := hd c (List.mem_cons_self ..)
    have hr : ∀ c ∈ r, 48 ≤ c.toNat ∧ c.toNat ≤ 57 := fun c hc => hd c (List.mem_cons_of_mem _ hc)
    by_cases hz : isZ c = true
    · have hz' : c.toNat = 48 := by simp [isZ] at hz; omega
      rw [strip_yes hz, ← expo_eq hr]
      unfold expo
      rw [List.foldl_cons, stp_lo (by omega)]
      congr 1
      omega
    · have hz' : isZ c = false := by simpa using hz
      have hn : c.toNat ≠ 48 := fun h => by simp [isZ, h] at hz'
      rw [strip_no hz']
      unfold expo f10
      rw [List.foldl_cons, stp_lo (by omega), List.take_succ_cons, List.foldl_cons]
      exact foldl_lo r 0 _ (by omega) (by omega) (by omega) hr

/-! ### The law -/
theorem rest_cons {l : List UInt8} {c : UInt8} {r : List UInt8} (h : rest l = c :: r) : exs l = r ∧ hasE l = true := by
  have hlt : (mant l).length < l.length := by
    rcases Nat.lt_or_ge (mant l).length l.length with h' | h'
    · exact h'
    · unfold rest at h
      rw [List.drop_eq_nil_of_le h'] at h
      cases h
  refine ⟨?_, decide_eq_true hlt⟩
  unfold rest at h
  unfold exs
  rw [← List.drop_drop, h]
  rfl
theorem rest_nil {l : List UInt8} (h : rest l = []) : hasE l = false := by
  unfold rest at h
  refine decide_eq_false ?_
  have := congrArg List.length h
  simp at this
  omega
theorem all_rst (x : List UInt8) : x.all isD = true ↔ rst x = [] := by
  induction x with
  | nil => simp [rst]
  | cons c r ih =>
    by_cases hD : isD c = true
    · rw [List.all_cons, hD, Bool.true_and, rst_yes hD]; exact ih
    · have hD' : isD c = false := by simpa using hD
      rw [List.all_cons, hD', Bool.false_and, rst_no hD']; simp

theorem gram (l : List UInt8) : (scan l).ok = (model l).1 ∧ ((model l).1 = true → (scan l).int = (model l).2.1 ∧ (scan l).frac = (model l).2.2.1 ∧ (scan l).exp = (model l).2.2.2) := by
  have hs := split_sign l
  have hD : rest l = [] ∨ ∃ c r, rest l = c :: r ∧ isD c = false := by
    rcases rest_head l with h | ⟨c, r, h, hc⟩
    · exact .inl h
    · exact .inr ⟨c, r, h, (isE_noD hc).1⟩
  have hdt : dt (rest l) = false := by
    rcases rest_head l with h | ⟨c, r, h, hc⟩
    · rw [h]; rfl
    · rw [h]; exact dt_no (isE_noD hc).2.1
  have noE : ∀ c ∈ m1 l, isE c = false := fun c hc => mant_noE l c (List.mem_of_mem_drop hc)
  have hc := chk_false (m1 l)
  have e1 : (scan l).int = dgs (m1 l) := by show dgs (l.drop (sg l)) = _; rw [hs, dgs_append hD]
  have e2 : (scan l).frac = frc (rst (m1 l)) := by show frc (rst (l.drop (sg l))) = _; rw [hs, rst_append hD, frc_append hD hdt]
  have e3 : tail2 (l.drop (sg l)) = if dgs (m1 l) = [] ∧ frc (rst (m1 l)) = [] then (0, false) else fin (aft (rst (m1 l)) ++ rest l) := by
    unfold tail2
    rw [hs, dgs_append hD, rst_append hD, frc_append hD hdt, aft_append hD hdt]
  have e4 : (scan l).exp = (tail2 (l.drop (sg l))).1 := rfl
  have e5 : (scan l).ok = (tail2 (l.drop (sg l))).2 := rfl
  rw [e1, e2, e4, e5, e3]
  by_cases hck : chk false (m1 l) = true
  · have ha := hc.1.1 hck
    obtain ⟨hi, hf⟩ := hc.2 ha
    have hm : model l = if dgs (m1 l) = [] ∧ frc (rst (m1 l)) = [] then fail4
        else if hasE l then (if (exs l).drop (sg (exs l)) = [] ∨ ((exs l).drop (sg (exs l))).all isD = false then fail4 else (true, dgs (m1 l), frc (rst (m1 l)), xval (exs l)))
        else (true, dgs (m1 l), frc (rst (m1 l)), 0) := by
      unfold model
      rw [if_neg (show ¬ chk false (m1 l) = false by simp [hck]), hi, hf]
    rw [hm, ha, List.nil_append]
    by_cases hem : dgs (m1 l) = [] ∧ frc (rst (m1 l)) = []
    · rw [if_pos hem, if_pos hem]
      exact ⟨rfl, fun h => by cases h⟩
    · rw [if_neg hem, if_neg hem]
      rcases rest_head l with hr | ⟨c, r, hr, hE⟩
      · rw [rest_nil hr, hr]
        exact ⟨rfl, fun _ => ⟨rfl, rfl, rfl⟩⟩
      · obtain ⟨hx, hh⟩ := rest_cons hr
        rw [hh, hr, hx, if_pos rfl]
        simp only [fin]
        rw [if_pos (isE_iff.1 hE)]
        by_cases hxe : r.drop (sg r) = []
        · have hdg : dgs (r.drop (sg r)) = [] := by rw [hxe]; rfl
          rw [if_pos hdg, if_pos (show r.drop (sg r) = [] ∨ (r.drop (sg r)).all isD = false from .inl hxe)]
          exact ⟨rfl, fun h => by cases h⟩
        · by_cases hall : (r.drop (sg r)).all isD = true
          · have hrs := (all_rst _).1 hall
            have hdg := dgs_of_rst hrs
            rw [if_neg (show ¬ dgs (r.drop (sg r)) = [] by rw [hdg]; exact hxe), if_neg (show ¬ (r.drop (sg r) = [] ∨ (r.drop (sg r)).all isD = false) by simp [hxe, hall]), hdg, hrs]
            refine ⟨rfl, fun _ => ⟨rfl, rfl, ?_⟩⟩
            have hv := expo_eq (e := r.drop (sg r)) (fun c hc => isD_iff.1 (List.all_eq_true.1 hall c hc))
            unfold xval
            rw [hv]
          · have hall' : (r.drop (sg r)).all isD = false := by simpa using hall
            have hrs : rst (r.drop (sg r)) ≠ [] := fun h => hall ((all_rst _).2 h)
            rw [if_pos (show r.drop (sg r) = [] ∨ (r.drop (sg r)).all isD = false from .inr hall')]
            by_cases hdg : dgs (r.drop (sg r)) = []
            · rw [if_pos hdg]
              exact ⟨rfl, fun h => by cases h⟩
            · rw [if_neg hdg]
              exact ⟨decide_eq_false hrs, fun h => by cases h⟩
  · have hck' : chk false (m1 l) = false := by simpa using hck
    have ha : aft (rst (m1 l)) ≠ [] := fun h => hck (hc.1.2 h)
    have hm : model l = fail4 := by unfold model; rw [if_pos hck']
    rw [hm]
    refine ⟨?_, fun h => by cases h⟩
    by_cases hem : dgs (m1 l) = [] ∧ frc (rst (m1 l)) = []
    · rw [if_pos hem]; rfl
    · rw [if_neg hem]
      cases hq : aft (rst (m1 l)) with
      | nil => exact absurd hq ha
      | cons c t =>
        have hcE : isE c = false := noE c (rst_mem (aft_mem (by rw [hq]; exact List.mem_cons_self ..)))
        rw [List.cons_append]
        simp only [fin]
        rw [if_neg (fun h => by rw [isE_iff.2 h] at hcE; cases hcE)]
        rfl
end Go.Proofs.Qxb6601144a
