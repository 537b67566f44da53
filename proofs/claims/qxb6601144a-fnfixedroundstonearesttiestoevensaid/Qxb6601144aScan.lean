/-
  DERIVED. scanNumber, walked: the sign, the digits, the point, the exponent.
-/
import Derived.Test.Qxb6601144aDigits
import Derived.Deep.DeepCutAuto
import Derived.Deep.CutBlock
namespace Go.Proofs.Qxb6601144a
open Go.RowKit Go.Joins

/-- Does a sign open the text? How long is it? -/
def sg : List UInt8 → Nat
  | c :: _ => if c.toNat = 43 ∨ c.toNat = 45 then 1 else 0
  | [] => 0
def ng : List UInt8 → Bool
  | c :: _ => (c.toNat : Int) == 45
  | [] => false

theorem at_pos {s : ByteArray} {n : Nat} {c : UInt8} {r : List UInt8} (h : s.data.toList.drop n = c :: r) : ∃ hn : n < s.size, s[n] = c := by
  have hn : n < s.size := by
    rcases Nat.lt_or_ge n s.size with h' | h'
    · exact h'
    · rw [List.drop_eq_nil_of_le (by rw [← Lib.size_eq]; exact h')] at h; cases h
  refine ⟨hn, ?_⟩
  rw [drop_cons s n hn] at h
  exact (List.cons.inj h).1
theorem at_end {s : ByteArray} {n : Nat} (h : s.data.toList.drop n = []) : s.size ≤ n := by
  rcases Nat.lt_or_ge n s.size with h' | h'
  · rw [drop_cons s n h'] at h; cases h
  · exact h'

/-- The world of the scan: the text, the result, the number so far, the place. -/
abbrev SW (w : World) (s : ByteArray) (ng : Bool) (A F : ByteArray) (x i : Int) : World :=
  (((w.alloc (.cells #[.string s] 9)).alloc (.cells #[.bool false, .string { data := #[] }, .string { data := #[] }, .int .i64 0] 35)).alloc
    (.cells #[.bool ng, .string A, .string F, .int .i64 x] 35)).alloc (.cells #[.int .i64 i] 3)

theorem sg_cons {c : UInt8} {r : List UInt8} (h : c.toNat = 43 ∨ c.toNat = 45) : sg (c :: r) = 1 := by simp [sg, h]
theorem sg_cons_no {c : UInt8} {r : List UInt8} (h : ¬ (c.toNat = 43 ∨ c.toNat = 45)) : sg (c :: r) = 0 := by simp [sg, h]
theorem sg_le (r : List UInt8) : sg r ≤ r.length := by
  cases r with
  | nil => simp [sg]
  | cons c r => simp only [sg]; split <;> simp
theorem ng_yes {c : UInt8} {r : List UInt8} (h : c.toNat = 45) : ng (c :: r) = true := by simp [ng, h]
theorem ng_no {c : UInt8} {r : List UInt8} (h : c.toNat ≠ 45) : ng (c :: r) = false := by simp [ng]; omega

theorem digits_SW (w : World) (s : ByteArray) (neg : Bool) (A F : ByteArray) (x : Int) (k n : Nat) (D : List UInt8) (HD0 : Hid (D = dgs (s.data.toList.drop k) ∧ n = k + D.length)) (hk : k ≤ s.size) (hs : s.size ≤ 9223372036854775806) :
    Calls Try.prog 23 #[.pointer (some ⟨w.heap.size + 1 + 1 + 1, 0, none⟩), .pointer (some ⟨w.heap.size, 0, none⟩)] (SW w s neg A F x k) fun e w' => e = .returned (.string (str D)) ∧ SW w s neg A F x n = w' := by
  refine (digits_core (w.heap.size + 1 + 1 + 1) w.heap.size s k n D HD0 hk hs (by omega) _ ?_ ?_ ?_).mono ?_
  · rw [World.cell?_alloc_at _ _ _ _ (by simp)]; rfl
  · rw [World.frozen?_alloc_at _ _ _ _ (by simp)]
  · rw [World.cell?_alloc_past _ _ _ (by simp; omega), World.cell?_alloc_past _ _ _ (by simp; omega), World.cell?_alloc_past _ _ _ (by simp), World.cell?_alloc_at _ _ _ _ rfl]; rfl
  · rintro e w' ⟨rfl, rfl⟩
    refine ⟨rfl, ?_⟩
    rw [World.setCell_alloc_at _ _ _ _ _ (by simp)]
    rfl

/-- A point ahead? An exponent's letter? -/
def dt : List UInt8 → Bool
  | c :: _ => c.toNat == 46
  | [] => false
theorem dt_yes {c : UInt8} {r : List UInt8} (h : c.toNat = 46) : dt (c :: r) = true := by simp [dt, h]
theorem dt_no {c : UInt8} {r : List UInt8} (h : c.toNat ≠ 46) : dt (c :: r) = false := by simp [dt, h]

theorem step_list {s : ByteArray} {k n : Nat} {D : List UInt8} (hk : k ≤ s.size) (H : D = dgs (s.data.toList.drop k) ∧ n = k + D.length) : n ≤ s.size := by
  obtain ⟨rfl, rfl⟩ := H
  have := dgs_le (s.data.toList.drop k)
  rw [List.length_drop, ← Lib.size_eq] at this
  omega

theorem str_isEmpty (l : List UInt8) : (str l).toList.isEmpty = l.isEmpty := by rw [Lib.toList_data, str_data]

/-- The exponent's number: the first nine digits that count. -/
def stp (a : Int) (c : UInt8) : Int := if a < 100000000 then a * 10 + ((c.toNat : Int) - 48) else a
def expo (e : List UInt8) : Int := e.foldl stp 0
theorem stp_lo {a : Int} {c : UInt8} (h : a < 100000000) : stp a c = a * 10 + ((c.toNat : Int) - 48) := by unfold stp; rw [if_pos h]
theorem stp_hi {a : Int} {c : UInt8} (h : ¬ a < 100000000) : stp a c = a := by unfold stp; rw [if_neg h]
theorem dgs_all : ∀ (l : List UInt8), ∀ c ∈ dgs l, isD c = true
  | [], c, h => by cases h
  | a :: l, c, h => by
    by_cases ha : isD a = true
    · rw [dgs_cons_yes ha] at h
      rcases List.mem_cons.1 h with rfl | h
      · exact ha
      · exact dgs_all l c h
    · rw [dgs_cons_no (by simpa using ha)] at h
      cases h
/-- What follows the digits: the exponent, and whether the text ends there. -/
def fin : List UInt8 → Int × Bool
  | [] => (0, true)
  | c :: r => if c.toNat = 101 ∨ c.toNat = 69 then
      (if dgs (r.drop (sg r)) = [] then (0, false) else (if ng r then - expo (dgs (r.drop (sg r))) else expo (dgs (r.drop (sg r))), decide (rst (r.drop (sg r)) = [])))
    else (0, false)

theorem low_e_all : ∀ n : Fin 256, bits .or .u8 (n.val : Int) 32 = 101 ↔ n.val = 101 ∨ n.val = 69 := by decide +kernel
theorem low_e (c : UInt8) : bits .or .u8 (c.toNat : Int) 32 = 101 ↔ c.toNat = 101 ∨ c.toNat = 69 := low_e_all ⟨c.toNat, c.toNat_lt⟩
theorem ok_form (a b : Nat) : decide (a = b) = ((a : Int) == (b : Int)) := by
  by_cases h : a = b <;> simp [h]
  omega

/-- The scan's memory, in whatever world. -/
structure St (w : World) (s : ByteArray) (neg : Bool) (A F : ByteArray) (x n : Int) (wr : World) : Prop where
  bel : Below w.heap.size w wr
  b0 : wr.heap[w.heap.size]? = some (.cells #[.string s] 9 (0, 0))
  b1 : wr.heap[w.heap.size + 1]? = some (.cells #[.bool false, .string { data := #[] }, .string { data := #[] }, .int .i64 0] 35 (0, 0))
  b2 : wr.heap[w.heap.size + 1 + 1]? = some (.cells #[.bool neg, .string A, .string F, .int .i64 x] 35 (0, 0))
  b3 : wr.heap[w.heap.size + 1 + 1 + 1]? = some (.cells #[.int .i64 n] 3 (0, 0))

theorem heap_past (w : World) (o : Obj) (k : Nat) (h : k < w.heap.size) : (w.alloc o).heap[k]? = w.heap[k]? := Below.heap_alloc w o k h
theorem St.of (w : World) (s : ByteArray) (neg : Bool) (A F : ByteArray) (x n : Int) : St w s neg A F x n (SW w s neg A F x n) where
  bel := ((((Below.refl _ _).alloc (Nat.le_refl _) _).alloc (by simp) _).alloc (by simp; omega) _).alloc (by simp; omega) _
  b0 := by rw [heap_past _ _ _ (by simp; omega), heap_past _ _ _ (by simp; omega), heap_past _ _ _ (by simp), heap_alloc_new]
  b1 := by
    rw [heap_past _ _ _ (by simp), heap_past _ _ _ (by simp)]
    have := heap_alloc_new (w.alloc (.cells #[.string s] 9)) (.cells #[.bool false, .string { data := #[] }, .string { data := #[] }, .int .i64 0] 35)
    simpa using this
  b2 := by
    rw [heap_past _ _ _ (by simp)]
    have := heap_alloc_new ((w.alloc (.cells #[.string s] 9)).alloc (.cells #[.bool false, .string { data := #[] }, .string { data := #[] }, .int .i64 0] 35)) (.cells #[.bool neg, .string A, .string F, .int .i64 x] 35)
    simpa using this
  b3 := by
    have := heap_alloc_new (((w.alloc (.cells #[.string s] 9)).alloc (.cells #[.bool false, .string { data := #[] }, .string { data := #[] }, .int .i64 0] 35)).alloc (.cells #[.bool neg, .string A, .string F, .int .i64 x] 35)) (.cells #[.int .i64 n] 3)
    simpa using this

theorem St.setx {w : World} {s : ByteArray} {neg : Bool} {A F : ByteArray} {x n : Int} {wr : World} (h : St w s neg A F x n wr) (y : Int) : St w s neg A F y n (wr.setCell ⟨w.heap.size + 1 + 1, 3, none⟩ (.int .i64 y)) where
  bel := h.bel.setCell (by simp; omega) _
  b0 := by rw [Below.heap_setCell _ _ _ _ (by simp; omega)]; exact h.b0
  b1 := by rw [Below.heap_setCell _ _ _ _ (by simp)]; exact h.b1
  b2 := by rw [block_setCell h.b2]; rfl
  b3 := by rw [Below.heap_setCell _ _ _ _ (by simp)]; exact h.b3

theorem SW_size (w : World) (s : ByteArray) (neg : Bool) (A F : ByteArray) (x n : Int) : (SW w s neg A F x n).heap.size = w.heap.size + 1 + 1 + 1 + 1 := by simp

/-- Behind '[]byte(e)'. -/
theorem St.bytes (w : World) (s : ByteArray) (neg : Bool) (A F : ByteArray) (x n : Int) (D : List UInt8) : ∃ W1 cap, St w s neg A F x n W1 ∧ (∀ j, j < D.length → W1.cell? ⟨w.heap.size + 1 + 1 + 1 + 1, j, none⟩ = some (.int .u8 ((D.getD j 0).toNat : Int))) ∧
    (convert 9 40 (.string (str D))).run Try.prog (SW w s neg A F x n) = .ok (.slice (some ⟨w.heap.size + 1 + 1 + 1 + 1, 0, none⟩) D.length cap) W1 := by
  have hst := St.of w s neg A F x n
  have hsz := SW_size w s neg A F x n
  generalize SW w s neg A F x n = W at hst hsz
  have hcv := Lib.run_convert_string_bytes (P := Try.prog) W 9 40 5 (str D) (u := .string) Try.underlying9 Try.underlying40 Try.underlying5
  rw [hsz, str_size] at hcv
  refine ⟨_, _, ?_, ?_, hcv⟩
  · have hb := below_bytesWorld W.heap.size W 5 (str D) (Nat.le_refl _)
    exact ⟨hst.bel.trans (hb.mono hst.bel.size), (hb.block _ (by omega)).trans hst.b0, (hb.block _ (by omega)).trans hst.b1, (hb.block _ (by omega)).trans hst.b2, (hb.block _ (by omega)).trans hst.b3⟩
  · intro j hj
    have := Lib.bytesWorld_cell W 5 (str D) j (by rw [str_size]; exact hj)
    rw [hsz, str_data] at this
    exact this

set_option maxHeartbeats 4000000 in
set_option maxRecDepth 10000 in
theorem scan_core (s : ByteArray) (hs : s.size ≤ 9223372036854775806) (w : World) (x : Int) (ok : Bool) (neg : Bool) (i0 : Nat) (H0 : Hid (neg = ng s.data.toList ∧ i0 = sg s.data.toList)) (hi0 : i0 ≤ s.size)
    (D1 : List UInt8) (n1 : Nat) (H1 : Hid (D1 = dgs (s.data.toList.drop i0) ∧ n1 = i0 + D1.length)) (hn1 : n1 ≤ s.size)
    (D2 : List UInt8) (n2 : Nat) (H2 : Hid ((dt (s.data.toList.drop n1) = true → D2 = dgs (s.data.toList.drop (n1 + 1)) ∧ n2 = n1 + 1 + D2.length) ∧ (dt (s.data.toList.drop n1) = false → D2 = [] ∧ n2 = n1))) (hn2 : n2 ≤ s.size)
    (HF : Hid ((D1 = [] ∧ D2 = [] → x = 0 ∧ ok = false) ∧ (¬ (D1 = [] ∧ D2 = []) → (x, ok) = fin (s.data.toList.drop n2)))) :
    Calls Try.prog 21 #[.string s] w fun e w' => e = .returned (.tuple #[.agg #[.bool neg, .string (str D1), .string (str D2), .int .i64 x], .bool ok]) ∧ Below w.heap.size w w' := by
  go_enter Try.func21, Try.ntmps21
  go_upto_region 3 with fail
  iterate 11 go_step
  go_cut [] (fun wx => wx = SW w s neg { data := #[] } { data := #[] } 0 i0)
  case first =>
    clear H1 H2 hn1 hn2
    rcases hL : s.data.toList with _ | ⟨c, r⟩
    · obtain rfl : s = str [] := by rw [← hL, str_of]
      obtain ⟨rfl, rfl⟩ := H0.out
      have hz : (str []) = { data := #[] } := rfl
      clear hL
      go_wp2
      go_meet
      case rel => rfl
    · obtain ⟨hn, hc⟩ := at_pos (s := s) (n := 0) hL
      subst hc
      obtain ⟨hne, hie⟩ := H0.out
      rw [hL] at hne hie
      clear hL
      by_cases h43 : s[0].toNat = 43
      · have b1 : ((s[0].toNat : Int) == 43) = true := by simp [h43]
        have b2 : ((s[0].toNat : Int) == 45) = false := by simp [h43]
        rw [sg_cons (.inl h43)] at hie
        rw [ng_no (by omega)] at hne
        subst hne hie
        clear h43
        go_wp2
        go_meet
        case rel => rfl
      · by_cases h45 : s[0].toNat = 45
        · have b1 : ((s[0].toNat : Int) == 43) = false := by simp [h45]
          have b2 : ((s[0].toNat : Int) == 45) = true := by simp [h45]
          rw [sg_cons (.inr h45)] at hie
          rw [ng_yes h45] at hne
          subst hne hie
          clear h45 h43
          go_wp2
          go_meet
          case rel => rfl
        · have b1 : ((s[0].toNat : Int) == 43) = false := by simp; omega
          have b2 : ((s[0].toNat : Int) == 45) = false := by simp; omega
          rw [sg_cons_no (by omega)] at hie
          rw [ng_no h45] at hne
          subst hne hie
          clear h45 h43
          go_wp2
          go_meet
          case rel => rfl
  case rest =>
    subst hcut
    go_wp2_with fail
    refine (digits_SW w s neg _ _ 0 i0 n1 D1 H1 hi0 hs).mono ?_
    rintro e w' ⟨rfl, rfl⟩
    clear H0 H1 hi0
    simp only []
    iterate 11 (first | go_values | go_skip | go_guarded | go_step | go_upon)
    go_cut [] (fun wx => wx = SW w s neg (str D1) (str D2) 0 n2)
    case first =>
      rcases hL : s.data.toList.drop n1 with _ | ⟨c, r⟩
      · have hz := at_end hL
        have hE : D2 = [] ∧ n2 = n1 := H2.out.2 (by rw [hL]; rfl)
        obtain ⟨rfl, rfl⟩ := hE
        have hz' : (s.size : Int) ≤ (n2 : Int) := by omega
        clear hL H2 hz
        go_wp2
        go_meet
        case rel => rfl
      · obtain ⟨hn, hc⟩ := at_pos hL
        subst hc
        by_cases h46 : s[n1].toNat = 46
        · have b1 : ((s[n1].toNat : Int) == 46) = true := by simp [h46]
          have hE : D2 = dgs (s.data.toList.drop (n1 + 1)) ∧ n2 = n1 + 1 + D2.length := H2.out.1 (by rw [hL]; exact dt_yes h46)
          have HE : Hid (D2 = dgs (s.data.toList.drop (n1 + 1)) ∧ n2 = n1 + 1 + D2.length) := hE
          clear hL H2 hE h46
          have hC := digits_SW w s neg (str D1) { data := #[] } 0 (n1 + 1) n2 D2 HE (by omega) hs
          go_wp2_with (go_at_call 23; refine hC.mono ?_; rintro e w' ⟨rfl, rfl⟩)
          go_meet
          case rel => rfl
        · have b1 : ((s[n1].toNat : Int) == 46) = false := by simp; omega
          have hE : D2 = [] ∧ n2 = n1 := H2.out.2 (by rw [hL]; exact dt_no h46)
          obtain ⟨rfl, rfl⟩ := hE
          clear hL H2 h46
          go_wp2
          go_meet
          case rel => rfl
    case rest =>
      subst hcut
      clear H2
      iterate 2 go_step
      go_cut [] (fun wx => ¬ (D1 = [] ∧ D2 = []) ∧ wx = SW w s neg (str D1) (str D2) 0 n2)
      case first =>
        have hA := str_isEmpty D1
        have hB := str_isEmpty D2
        by_cases hD1 : D1 = []
        · by_cases hD2 : D2 = []
          · have hD1' : D1.isEmpty = true := by rw [hD1]; rfl
            have hD2' : D2.isEmpty = true := by rw [hD2]; rfl
            rw [hD1'] at hA
            rw [hD2'] at hB
            have hE := HF.out.1 ⟨hD1, hD2⟩
            obtain ⟨rfl, rfl⟩ := hE
            clear hD1 hD2 hD1' hD2' HF
            go_wp2
            exact bodyPost_ret (v := .tuple #[.agg #[.bool neg, .string (str D1), .string (str D2), .int .i64 0], .bool false]) (by simp [results, Try.results21, go_sem]) rfl ⟨rfl, ((((Below.refl _ _).alloc (Nat.le_refl _) _).alloc (by simp) _).alloc (by simp; omega) _).alloc (by simp; omega) _⟩
          · have hD1' : D1.isEmpty = true := by rw [hD1]; rfl
            have hD2' : D2.isEmpty = false := by
              cases D2 with
              | nil => exact absurd rfl hD2
              | cons => rfl
            have HN : Hid (¬ (D1 = [] ∧ D2 = [])) := fun h => hD2 h.2
            rw [hD1'] at hA
            rw [hD2'] at hB
            clear hD1 hD2 hD1' hD2'
            go_wp2
            go_meet
            case rel => exact ⟨HN.out, rfl⟩
        · have hD1' : D1.isEmpty = false := by
            cases D1 with
            | nil => exact absurd rfl hD1
            | cons => rfl
          have HN : Hid (¬ (D1 = [] ∧ D2 = [])) := fun h => hD1 h.1
          rw [hD1'] at hA
          clear hD1 hD1'
          go_wp2
          go_meet
          case rel => exact ⟨HN.out, rfl⟩
      case rest =>
        obtain ⟨hAB, rfl⟩ := hcut
        have HE : Hid ((x, ok) = fin (s.data.toList.drop n2)) := HF.out.2 hAB
        clear HF hAB
        iterate 2 go_step
        go_cut [] (fun wx => ∃ n : Nat, St w s neg (str D1) (str D2) x n wx ∧ Hid (ok = decide (n = s.size)) ∧ n ≤ s.size)
        case first =>
          rcases hL : s.data.toList.drop n2 with _ | ⟨c, r⟩
          · have hz := at_end hL
            have hE := HE.out
            rw [hL] at hE
            obtain ⟨rfl, rfl⟩ := Prod.mk.inj hE
            have hz' : (s.size : Int) ≤ (n2 : Int) := by omega
            clear hL hE HE
            go_wp2
            go_meet
            case rel => exact ⟨n2, St.of _ _ _ _ _ _ _, by show _ = _; simp; omega, hn2⟩
          · obtain ⟨hn, hc⟩ := at_pos hL
            subst hc
            have hE := HE.out
            rw [hL] at hE
            by_cases hee : s[n2].toNat = 101 ∨ s[n2].toNat = 69
            · have b1 : (bits .or .u8 (s[n2].toNat : Int) 32 == 101) = true := by simp; exact (low_e s[n2]).2 hee
              have hr : s.data.toList.drop (n2 + 1) = r := by
                rw [drop_cons s n2 hn] at hL
                exact (List.cons.inj hL).2
              have HX : Hid ((x, ok) = if dgs (r.drop (sg r)) = [] then (0, false) else (if ng r then - expo (dgs (r.drop (sg r))) else expo (dgs (r.drop (sg r))), decide (rst (r.drop (sg r)) = []))) := by
                rw [hE]; simp only [fin]; rw [if_pos hee]; rfl
              have HR : Hid (s.data.toList.drop (n2 + 1) = r) := hr
              clear hL hE HE hee hr
              have hn3 : n2 + 1 ≤ s.size := by omega
              obtain ⟨en, hen⟩ : ∃ b, b = ng r := ⟨_, rfl⟩
              obtain ⟨n4, hn4⟩ : ∃ n, n = n2 + 1 + sg r := ⟨_, rfl⟩
              obtain ⟨D3, hD3⟩ : ∃ D, D = dgs (s.data.toList.drop n4) := ⟨_, rfl⟩
              obtain ⟨n5, hn5⟩ : ∃ n, n = n4 + D3.length := ⟨_, rfl⟩
              have hn4' : n4 ≤ s.size := by
                have := sg_le r
                have hl := congrArg List.length HR.out
                rw [List.length_drop, ← Lib.size_eq] at hl
                omega
              have hrd : r.drop (sg r) = s.data.toList.drop n4 := by rw [← HR.out, List.drop_drop, hn4, HR.out]
              have hn5' : n5 ≤ s.size := step_list hn4' ⟨hD3, hn5⟩
              have HX' : Hid ((D3 = [] → x = 0 ∧ ok = false) ∧ (D3 ≠ [] → (x = if en then - expo D3 else expo D3) ∧ ok = decide (n5 = s.size))) := by
                have hx := HX.out
                rw [hrd, ← hD3, ← hen] at hx
                refine ⟨fun h => ?_, fun h => ?_⟩
                · rw [if_pos h] at hx
                  exact Prod.mk.inj hx
                · rw [if_neg h] at hx
                  obtain ⟨e1, e2⟩ := Prod.mk.inj hx
                  refine ⟨e1, e2.trans ?_⟩
                  have e3 : rst (s.data.toList.drop n4) = s.data.toList.drop n5 := by rw [rst, ← hD3, List.drop_drop, ← hn5]
                  rw [e3]
                  by_cases hq : n5 = s.size
                  · rw [decide_eq_true hq, decide_eq_true (List.drop_eq_nil_of_le (by rw [← Lib.size_eq]; omega))]
                  · rw [decide_eq_false hq, decide_eq_false (fun hh => hq (by have := at_end hh; omega))]
              have HM : Hid (en = ng (s.data.toList.drop (n2 + 1)) ∧ n4 = n2 + 1 + sg (s.data.toList.drop (n2 + 1))) := by
                rw [HR.out]; exact ⟨hen, hn4⟩
              have HDD : Hid (D3 = dgs (s.data.toList.drop n4) ∧ n5 = n4 + D3.length) := ⟨hD3, hn5⟩
              clear HX HR hen hn4 hD3 hn5 hrd
              go_upto_region 15 with fail
              go_cut [7] (fun v wx => v = .bool en ∧ wx = SW w s neg (str D1) (str D2) 0 ((n2 : Int) + 1))
              case first =>
                clear HX' HDD
                rcases hL : s.data.toList.drop (n2 + 1) with _ | ⟨c, r'⟩
                · have hz := at_end hL
                  have hng : en = false := by rw [HM.out.1, hL]; rfl
                  subst hng
                  have hz' : (s.size : Int) ≤ (n2 : Int) + 1 := by omega
                  clear hL HM hz
                  go_wp2
                  go_meet
                  case rel => exact ⟨rfl, rfl⟩
                · obtain ⟨hn', hc⟩ := at_pos hL
                  subst hc
                  by_cases h45 : s[n2 + 1].toNat = 45
                  · have b2 : ((s[n2 + 1].toNat : Int) == 45) = true := by simp [h45]
                    have hng : en = true := by rw [HM.out.1, hL]; exact ng_yes h45
                    subst hng
                    clear hL HM h45
                    go_wp2
                    go_meet
                    case rel => exact ⟨rfl, rfl⟩
                  · have b2 : ((s[n2 + 1].toNat : Int) == 45) = false := by simp; omega
                    have hng : en = false := by rw [HM.out.1, hL]; exact ng_no h45
                    subst hng
                    clear hL HM h45
                    go_wp2
                    go_meet
                    case rel => exact ⟨rfl, rfl⟩
              case rest =>
                obtain ⟨rfl, rfl⟩ := hcut
                iterate 2 go_step
                go_cut [] (fun wx => wx = SW w s neg (str D1) (str D2) 0 n4)
                case first =>
                  clear HX' HDD
                  rcases hL : s.data.toList.drop (n2 + 1) with _ | ⟨c, r'⟩
                  · have hz := at_end hL
                    have hng : n4 = n2 + 1 := by rw [HM.out.2, hL]; rfl
                    subst hng
                    have hz' : (s.size : Int) ≤ (n2 : Int) + 1 := by omega
                    clear hL HM hz
                    go_wp2
                    go_meet
                    case rel => rfl
                  · obtain ⟨hn', hc⟩ := at_pos hL
                    subst hc
                    by_cases h43 : s[n2 + 1].toNat = 43
                    · have b2 : ((s[n2 + 1].toNat : Int) == 43) = true := by simp [h43]
                      have hng : n4 = n2 + 1 + 1 := by rw [HM.out.2, hL, sg_cons (.inl h43)]
                      subst hng
                      clear hL HM h43
                      go_wp2
                      go_meet
                      case rel => rfl
                    · by_cases h45 : s[n2 + 1].toNat = 45
                      · have b1 : ((s[n2 + 1].toNat : Int) == 43) = false := by simp [h45]
                        have b2 : ((s[n2 + 1].toNat : Int) == 45) = true := by simp [h45]
                        have hng : n4 = n2 + 1 + 1 := by rw [HM.out.2, hL, sg_cons (.inr h45)]
                        subst hng
                        clear hL HM h43 h45
                        go_wp2
                        go_meet
                        case rel => rfl
                      · have b1 : ((s[n2 + 1].toNat : Int) == 43) = false := by simp; omega
                        have b2 : ((s[n2 + 1].toNat : Int) == 45) = false := by simp; omega
                        have hng : n4 = n2 + 1 := by rw [HM.out.2, hL, sg_cons_no (by omega)]
                        subst hng
                        clear hL HM h43 h45
                        go_wp2
                        go_meet
                        case rel => rfl
                case rest =>
                  subst hcut
                  clear HM
                  go_wp2_with fail
                  refine (digits_SW w s neg _ _ 0 n4 n5 D3 HDD hn4' hs).mono ?_
                  rintro e w' ⟨rfl, rfl⟩
                  have hds : ∀ c ∈ D3, 48 ≤ c.toNat ∧ c.toNat ≤ 57 := fun c hc => isD_iff.1 (dgs_all _ c (by rw [← HDD.out.1]; exact hc))
                  have HDS : Hid (∀ c ∈ D3, 48 ≤ c.toNat ∧ c.toNat ≤ 57) := hds
                  have hlen3 : D3.length ≤ s.size := by have := HDD.out.2; omega
                  clear HDD hds
                  have hA := str_isEmpty D3
                  by_cases hD : D3 = []
                  · have hD' : D3.isEmpty = true := by rw [hD]; rfl
                    rw [hD'] at hA
                    obtain ⟨rfl, rfl⟩ := HX'.out.1 hD
                    clear hD hD' HX' HDS
                    go_wp2
                    exact bodyPost_ret (v := .tuple #[.agg #[.bool neg, .string (str D1), .string (str D2), .int .i64 0], .bool false]) (by simp [results, Try.results21, go_sem]) rfl ⟨rfl, ((((Below.refl _ _).alloc (Nat.le_refl _) _).alloc (by simp) _).alloc (by simp; omega) _).alloc (by simp; omega) _⟩
                  · have hD' : D3.isEmpty = false := by
                      cases D3 with
                      | nil => exact absurd rfl hD
                      | cons => rfl
                    rw [hD'] at hA
                    obtain ⟨hx, ho⟩ := HX'.out.2 hD
                    have HXO : Hid ((x = if en then - expo D3 else expo D3) ∧ ok = decide (n5 = s.size)) := ⟨hx, ho⟩
                    clear hD hD' HX' hx ho
                    obtain ⟨W1, cap, hst1, hby1, hcv⟩ := St.bytes w s neg (str D1) (str D2) 0 n5 D3
                    go_wp2
                    go_loopw [111] (fun i wr => ∃ (k : Nat) (a : Int), k ≤ D3.length ∧ i = .int .i64 k ∧ 0 ≤ a ∧ a ≤ 999999999 ∧ St w s neg (str D1) (str D2) a n5 wr ∧
                        Hid (∀ j, j < D3.length → wr.cell? ⟨w.heap.size + 1 + 1 + 1 + 1, j, none⟩ = some (.int .u8 ((D3.getD j 0).toNat : Int))) ∧ Hid (expo D3 = (D3.drop k).foldl stp a)) (fun i _ => D3.length - (intOf i).toNat)
                    case atStart => exact ⟨0, 0, Nat.zero_le _, rfl, by omega, by omega, hst1, hby1, rfl⟩
                    case round =>
                      obtain ⟨k, a, hk, rfl, ha0, ha1, hst, HBY, HEX⟩ := hrel
                      clear hst1 hby1 hcv
                      have g23 := cell_of_block hst.b2 3
                      have f23 := unfrozen_of_block hst.b2 3
                      simp at g23
                      by_cases hlt : k < D3.length
                      · have hcell := HBY.out k hlt
                        have hc := HDS.out (D3.getD k 0) (by rw [List.getD_eq_getElem?_getD, List.getElem?_eq_getElem hlt]; exact List.getElem_mem hlt)
                        have hex : expo D3 = (D3.drop (k + 1)).foldl stp (stp a (D3.getD k 0)) := by
                          rw [HEX.out, List.drop_eq_getElem_cons hlt, List.foldl_cons]
                          congr 2
                          rw [List.getD_eq_getElem?_getD, List.getElem?_eq_getElem hlt]; rfl
                        have HB2 : ∀ y, Hid (∀ j, j < D3.length → (wr.setCell ⟨w.heap.size + 1 + 1, 3, none⟩ (.int .i64 y)).cell? ⟨w.heap.size + 1 + 1 + 1 + 1, j, none⟩ = some (.int .u8 ((D3.getD j 0).toNat : Int))) := fun y j hj => by
                          rw [World.cell?_setCell_other _ _ _ _ (by intro e; have := congrArg Addr.block e; simp at this)]
                          exact HBY.out j hj
                        generalize D3.getD k 0 = c at hcell hc hex
                        obtain ⟨hc0, hc1⟩ := hc
                        by_cases hlo : a < 100000000
                        · rw [stp_lo hlo] at hex
                          have HX2 : Hid (expo D3 = (D3.drop (k + 1)).foldl stp (a * 10 + ((c.toNat : Int) - 48))) := hex
                          have hst2 := hst.setx (a * 10 + ((c.toNat : Int) - 48))
                          have hb3 := HB2 (a * 10 + ((c.toNat : Int) - 48))
                          clear hex HEX HBY HB2 hst
                          go_wp2
                          go_roundw
                          case rel => exact ⟨k + 1, a * 10 + ((c.toNat : Int) - 48), by omega, by go_num, by omega, by omega, hst2, hb3, HX2⟩
                          case measure => simp [intOf]; omega
                        · rw [stp_hi hlo] at hex
                          have HX2 : Hid (expo D3 = (D3.drop (k + 1)).foldl stp a) := hex
                          clear hex HEX HB2
                          go_wp2
                          go_roundw
                          case rel => exact ⟨k + 1, a, by omega, by go_num, by omega, by omega, hst, HBY, HX2⟩
                          case measure => simp [intOf]; omega
                      · have hkn : k = D3.length := by omega
                        have hex := HEX.out
                        rw [hkn, List.drop_length] at hex
                        have hxa : expo D3 = a := hex
                        clear hex HEX HBY
                        obtain ⟨hx, ho⟩ := HXO.out
                        rw [hxa] at hx
                        have HO : Hid (ok = decide (n5 = s.size)) := ho
                        clear ho HXO hxa
                        cases en
                        · have hx' : x = a := by simpa using hx
                          subst hx'
                          clear hx
                          go_wp2
                          go_meet
                          case rel => exact ⟨n5, hst, HO, hn5'⟩
                        · have hx' : x = -a := by simpa using hx
                          have hst2 := hst.setx (-a)
                          subst hx'
                          clear hx
                          go_wp2
                          go_meet
                          case rel => exact ⟨n5, hst2, HO, hn5'⟩
            · have b1 : (bits .or .u8 (s[n2].toNat : Int) 32 == 101) = false := by
                simp; exact fun h => hee ((low_e s[n2]).1 h)
              simp only [fin] at hE
              rw [if_neg hee] at hE
              obtain ⟨rfl, rfl⟩ := Prod.mk.inj hE
              clear hL hE HE hee
              go_wp2
              go_meet
              case rel => exact ⟨n2, St.of _ _ _ _ _ _ _, by show _ = _; simp; omega, hn2⟩
        case rest =>
          obtain ⟨n, hst, HO, hn⟩ := hcut
          have g0 := cell_of_block hst.b0 0
          have g10 := cell_of_block hst.b1 0
          have g11 := cell_of_block hst.b1 1
          have g12 := cell_of_block hst.b1 2
          have g13 := cell_of_block hst.b1 3
          have g20 := cell_of_block hst.b2 0
          have g21 := cell_of_block hst.b2 1
          have g22 := cell_of_block hst.b2 2
          have g23 := cell_of_block hst.b2 3
          have g3 := cell_of_block hst.b3 0
          have f1 := unfrozen_of_block hst.b1
          simp at g0 g10 g11 g12 g13 g20 g21 g22 g23 g3
          have HST : Hid (St w s neg (str D1) (str D2) x n wc) := hst
          clear hst
          go_wp2_with fail
          go_region
          all_goals go_wp2
          all_goals exact bodyPost_ret (v := .tuple #[.agg #[.bool neg, .string (str D1), .string (str D2), .int .i64 x], .bool ((n : Int) == (s.size : Int))]) (by simp [results, Try.results21, go_sem, g10, g11, g12, g13]) rfl ⟨by rw [HO.out, ok_form], ((((HST.out.bel.setCell (by simp) _).setCell (by simp) _).setCell (by simp) _).setCell (by simp) _).drew⟩
end Go.Proofs.Qxb6601144a
