/-
  DERIVED. b1ScanModel, walked: it computes the plain function 'model'.
-/
import Derived.Test.Qxb6601144aGram
import Derived.Deep.DeepCutAuto
import Derived.Deep.CutBlock
namespace Go.Proofs.Qxb6601144a
open Go.RowKit Go.Joins

theorem mant_yes {c : UInt8} {r : List UInt8} (h : isE c = true) : mant (c :: r) = [] := by unfold mant; rw [List.takeWhile_cons, if_neg (by simp [h])]
theorem mant_no {c : UInt8} {r : List UInt8} (h : isE c = false) : mant (c :: r) = c :: mant r := by unfold mant; rw [List.takeWhile_cons, if_pos (by simp [h])]
theorem ipt_yes {c : UInt8} {r : List UInt8} (h : c.toNat = 46) : ipt (c :: r) = [] := by unfold ipt; rw [List.takeWhile_cons, if_neg (by simp; omega)]
theorem ipt_no {c : UInt8} {r : List UInt8} (h : c.toNat ≠ 46) : ipt (c :: r) = c :: ipt r := by unfold ipt; rw [List.takeWhile_cons, if_pos (by simp; omega)]
theorem mant_le (l : List UInt8) : (mant l).length ≤ l.length := (List.takeWhile_sublist _).length_le
theorem mant_take (l : List UInt8) : mant l = l.take (mant l).length := List.prefix_iff_eq_take.1 (List.takeWhile_prefix _)
theorem ipt_le (l : List UInt8) : (ipt l).length ≤ l.length := (List.takeWhile_sublist _).length_le
theorem ipt_take (l : List UInt8) : ipt l = l.take (ipt l).length := List.prefix_iff_eq_take.1 (List.takeWhile_prefix _)
theorem str_extract_to (s : ByteArray) (n : Nat) : s.extract 0 n = str (s.data.toList.take n) := by rw [extract_str]; rfl
theorem str_extract_from (s : ByteArray) (n : Nat) : s.extract n s.size = str (s.data.toList.drop n) := by
  rw [extract_str, List.take_of_length_le (by rw [List.length_drop, ← Lib.size_eq]; omega)]

/-- Where the first 'e' or 'E' stands, or -1. -/
def epos (l : List UInt8) : Int := if (mant l).length < l.length then ((mant l).length : Int) else -1
def dpos (l : List UInt8) : Int := if (ipt l).length < l.length then ((ipt l).length : Int) else -1

theorem chk_dot_first {c : UInt8} {r : List UInt8} (h : c.toNat = 46) : chk false (c :: r) = chk true r := by rw [chk, if_pos h, if_neg (by simp)]
theorem chk_dot_again {c : UInt8} {r : List UInt8} (h : c.toNat = 46) : chk true (c :: r) = false := by rw [chk, if_pos h, if_pos rfl]
theorem chk_dig {d : Bool} {c : UInt8} {r : List UInt8} (h : c.toNat ≠ 46) (hD : isD c = true) : chk d (c :: r) = chk d r := by rw [chk, if_neg h, if_pos hD]
theorem chk_bad {d : Bool} {c : UInt8} {r : List UInt8} (h : c.toNat ≠ 46) (hD : isD c = false) : chk d (c :: r) = false := by rw [chk, if_neg h, if_neg (by simp [hD])]
theorem model_bad {l : List UInt8} (h : chk false (m1 l) = false) : model l = fail4 := by unfold model; rw [if_pos h]

/-- How far the mantissa has been looked through: no point yet, or one at d. -/
def Seen (t : List UInt8) (k : Nat) (d : Int) : Prop :=
  (d = -1 ∧ chk false t = chk false (t.drop k) ∧ (ipt t).length = k + (ipt (t.drop k)).length) ∨ (0 ≤ d ∧ d = ((ipt t).length : Int) ∧ (ipt t).length < t.length ∧ chk false t = chk true (t.drop k))

theorem model_good {l : List UInt8} (h : chk false (m1 l) = true) : model l = if ipt (m1 l) = [] ∧ fpt (m1 l) = [] then fail4
    else if hasE l then (if (exs l).drop (sg (exs l)) = [] ∨ ((exs l).drop (sg (exs l))).all isD = false then fail4 else (true, ipt (m1 l), fpt (m1 l), xval (exs l)))
    else (true, ipt (m1 l), fpt (m1 l), 0) := by
  unfold model
  rw [if_neg (by simp [h])]
theorem four {a : Bool} {b c : List UInt8} {d : Int} {a' : Bool} {b' c' : List UInt8} {d' : Int} (h : (a, b, c, d) = (a', b', c', d')) : a' = a ∧ b' = b ∧ c' = c ∧ d' = d := by
  obtain ⟨a1, a2⟩ := Prod.mk.inj h
  obtain ⟨a3, a4⟩ := Prod.mk.inj a2
  obtain ⟨a5, a6⟩ := Prod.mk.inj a4
  exact ⟨a1.symm, a3.symm, a5.symm, a6.symm⟩
theorem f10_bd : ∀ (l : List UInt8) (a : Int) (k : Nat), 0 ≤ a → a < 10 ^ k → (∀ c ∈ l, 48 ≤ c.toNat ∧ c.toNat ≤ 57) → 0 ≤ l.foldl (fun a c => a * 10 + ((c.toNat : Int) - 48)) a ∧ l.foldl (fun a c => a * 10 + ((c.toNat : Int) - 48)) a < 10 ^ (k + l.length)
  | [], a, k, h0, h1, _ => ⟨h0, h1⟩
  | c :: r, a, k, h0, h1, hd => by
    have hc := hd c (List.mem_cons_self ..)
    have e1 : (10 : Int) ^ (k + 1) = 10 ^ k * 10 := Int.pow_succ ..
    have ih := f10_bd r (a * 10 + ((c.toNat : Int) - 48)) (k + 1) (by omega) (by omega) (fun c hc => hd c (List.mem_cons_of_mem _ hc))
    rw [List.foldl_cons, List.length_cons, show k + (r.length + 1) = k + 1 + r.length by omega]
    exact ih
theorem pow_le_nine {k : Nat} (h : k ≤ 9) : (10 : Int) ^ k ≤ 1000000000 := by
  have h' := Int.ofNat_le.2 (Nat.pow_le_pow_right (n := 10) (by omega) h)
  rw [Int.natCast_pow, Int.natCast_pow] at h'
  have h2 : (10 : Int) ^ k ≤ 10 ^ 9 := h'
  omega
theorem isEmpty_no {l : List UInt8} (h : l ≠ []) : l.isEmpty = false := by
  cases l with
  | nil => exact absurd rfl h
  | cons => rfl
theorem strip_mem {l : List UInt8} {c : UInt8} (h : c ∈ strip l) : c ∈ l := (List.dropWhile_sublist _).mem h

set_option maxHeartbeats 8000000 in
set_option maxRecDepth 10000 in
theorem model_core (s : ByteArray) (hs : s.size ≤ 9223372036854775806) (w : World) (okb : Bool) (A F : List UInt8) (x : Int) (HR : Hid (model s.data.toList = (okb, A, F, x)))
    (p : Int) (Hp : Hid (p = epos s.data.toList))
    (M X : ByteArray) (he : Bool) (HMX : Hid (M = str (mant s.data.toList) ∧ X = str (exs s.data.toList) ∧ he = hasE s.data.toList)) (hMs : M.size ≤ s.size) (hXs : X.size ≤ s.size)
    (m : ByteArray) (Hm : Hid (m = str (m1 s.data.toList))) (hms : m.size ≤ s.size) (dI : Int) (Hd : Hid (dI = dpos (m1 s.data.toList)))
    (I G : ByteArray) (HIG : Hid (I = str (ipt (m1 s.data.toList)) ∧ G = str (fpt (m1 s.data.toList))))
    (Y : List UInt8) (en : Bool) (HY : Hid (Y = (exs s.data.toList).drop (sg (exs s.data.toList)) ∧ en = ng (exs s.data.toList))) (hYs : Y.length ≤ s.size) :
    Calls Try.prog 9 #[.string s] w fun e w' => e = .returned (.tuple #[.bool okb, .string (str A), .string (str F), .int .i64 x]) ∧ w = w' := by
  go_enter Try.func9, Try.ntmps9
  go_upto_block 0 with fail
  go_cut [6] (fun v wx => v = .int .i64 p ∧ w = wx)
  case first =>
    clear HR
    go_wp2_with fail
    go_loopg [6, 7] s.size (fun g v i wr => ∃ k : Nat, k ≤ s.size ∧ g = s.size - k ∧ i = .int .i64 k ∧ v = .int .i64 (-1) ∧ w = wr ∧ Hid ((mant s.data.toList).length = k + (mant (s.data.toList.drop k)).length))
    case atStart => exact ⟨0, Nat.zero_le _, rfl, rfl, rfl, rfl, by show _ = _; simp⟩
    case round =>
      obtain ⟨k, hk, hg, rfl, rfl, rfl, HK⟩ := hrel
      have HG : Hid (gk = s.size - k) := hg
      clear hg
      by_cases hlt : k < s.size
      · have hkk := HK.out
        rw [drop_cons s k hlt] at hkk
        have hll : s.data.toList.length = s.size := by rw [Lib.size_eq]
        by_cases hE : isE s[k] = true
        · rw [mant_yes hE] at hkk
          have hp : p = (k : Int) := by
            have := Hp.out
            rw [epos, if_pos (by rw [hkk, hll]; simpa using hlt), hkk] at this
            simpa using this
          subst hp
          have hE' := isE_iff.1 hE
          clear hkk HK Hp hE
          by_cases h101 : s[k].toNat = 101
          · have b1 : ((s[k].toNat : Int) == 101) = true := by simp [h101]
            clear hE' h101 hll
            go_wp2
            go_meet
            case rel => exact ⟨rfl, rfl⟩
          · have h69 : s[k].toNat = 69 := by omega
            have b1 : ((s[k].toNat : Int) == 101) = false := by simp [h69]
            have b2 : ((s[k].toNat : Int) == 69) = true := by simp [h69]
            clear hE' h101 h69 hll
            go_wp2
            go_meet
            case rel => exact ⟨rfl, rfl⟩
        · have hE' : isE s[k] = false := by simpa using hE
          rw [mant_no hE'] at hkk
          have HK2 : Hid ((mant s.data.toList).length = (k + 1) + (mant (s.data.toList.drop (k + 1))).length) := by
            show _ = _
            rw [hkk, List.length_cons]; omega
          have hne : ¬ (s[k].toNat = 101 ∨ s[k].toNat = 69) := fun h => hE (isE_iff.2 h)
          have b1 : ((s[k].toNat : Int) == 101) = false := by simp; omega
          have b2 : ((s[k].toNat : Int) == 69) = false := by simp; omega
          clear hkk HK hE hE' hne hll
          go_wp2
          go_roundg (s.size - (k + 1))
          case measure => have := HG.out; omega
          case rel => exact ⟨k + 1, by omega, rfl, by go_num, rfl, rfl, HK2⟩
      · have hkk := HK.out
        rw [drop_end (by omega)] at hkk
        have hp : p = -1 := by
          have := Hp.out
          have hll : s.data.toList.length = s.size := by rw [Lib.size_eq]
          rw [epos, if_neg (by rw [hkk, hll]; simp [mant]; omega)] at this
          exact this
        subst hp
        clear hkk HK Hp
        go_wp2
        go_meet
        case rel => exact ⟨rfl, rfl⟩
  case rest =>
    obtain ⟨rfl, rfl⟩ := hcut
    go_upto_region 9 with fail
    iterate 8 go_step
    go_cut [8, 9, 10] (fun a b c wx => a = .string M ∧ b = .string X ∧ c = .bool he ∧ w = wx)
    case first =>
      clear HR Hm Hd HIG
      have hll : s.data.toList.length = s.size := by rw [Lib.size_eq]
      obtain ⟨hM, hX, hh⟩ := HMX.out
      have hpp := Hp.out
      have hml := mant_le s.data.toList
      have hmt := mant_take s.data.toList
      generalize hP : (mant s.data.toList).length = P at hml hmt
      unfold epos at hpp
      unfold hasE at hh
      unfold exs at hX
      rw [hP] at hpp hh hX
      rw [hmt, ← str_extract_to] at hM
      rw [← str_extract_from] at hX
      by_cases hlt : P < s.size
      · rw [if_pos (by omega)] at hpp
        have hh' : he = true := hh.trans (decide_eq_true (by omega))
        subst hpp hh' hM hX
        clear hh hmt hP Hp HMX hMs hXs
        go_wp2
        go_meet
        case rel => exact ⟨rfl, rfl, rfl, rfl⟩
      · rw [if_neg (by omega)] at hpp
        have hh' : he = false := hh.trans (decide_eq_false (by omega))
        have hM' : M = s := by
          rw [hM, str_extract_to, List.take_of_length_le (by omega), str_of]
        have hX' : X = { data := #[] } := by
          rw [hX, str_extract_from, List.drop_eq_nil_of_le (by omega)]; rfl
        subst hpp hh' hX'
        have HMM : Hid (M = s) := hM'
        clear hh hmt hP Hp HMX hMs hXs hM hM' hX
        go_wp2
        go_meet
        case rel => exact ⟨by rw [HMM.out], rfl, rfl, rfl⟩
    case rest =>
      obtain ⟨rfl, rfl, rfl, rfl⟩ := hcut
      clear Hp
      have HMd : Hid (M.data.toList = mant s.data.toList) := by show _ = _; rw [HMX.out.1, str_data]
      iterate 2 go_step
      go_cut [8] (fun a wx => a = .string m ∧ w = wx)
      case first =>
        have hm := Hm.out
        unfold m1 at hm
        rw [← HMd.out] at hm
        clear HR Hm Hd HIG HMX HMd
        rcases hL : M.data.toList with _ | ⟨c, r⟩
        · have hz : M.size = 0 := by rw [Lib.size_eq, hL]; rfl
          have hmM : m = M := by
            rw [hm, hL, ← str_of M, hL]; rfl
          have HMM : Hid (m = M) := hmM
          clear hm hL hmM
          go_wp2
          go_meet
          case rel => exact ⟨by rw [HMM.out], rfl⟩
        · obtain ⟨hn, hc⟩ := at_pos (s := M) (n := 0) hL
          subst hc
          have hmE : Hid (sg (M.data.toList) = 1 → m = M.extract 1 M.size) := fun h => by rw [hm, h, str_extract_from]
          have hmN : Hid (sg (M.data.toList) = 0 → m = M) := fun h => by rw [hm, h]; exact str_of M
          rw [hL] at hmE hmN
          clear hm hL
          by_cases h43 : M[0].toNat = 43
          · have b1 : ((M[0].toNat : Int) == 43) = true := by simp [h43]
            have HMM : Hid (m = M.extract 1 M.size) := hmE.out (sg_cons (.inl h43))
            clear hmE hmN h43
            go_wp2
            go_meet
            case rel => exact ⟨by rw [HMM.out], rfl⟩
          · by_cases h45 : M[0].toNat = 45
            · have b1 : ((M[0].toNat : Int) == 43) = false := by simp [h45]
              have b2 : ((M[0].toNat : Int) == 45) = true := by simp [h45]
              have HMM : Hid (m = M.extract 1 M.size) := hmE.out (sg_cons (.inr h45))
              clear hmE hmN h43 h45
              go_wp2
              go_meet
              case rel => exact ⟨by rw [HMM.out], rfl⟩
            · have b1 : ((M[0].toNat : Int) == 43) = false := by simp; omega
              have b2 : ((M[0].toNat : Int) == 45) = false := by simp; omega
              have HMM : Hid (m = M) := hmN.out (sg_cons_no (by omega))
              clear hmE hmN h43 h45
              go_wp2
              go_meet
              case rel => exact ⟨by rw [HMM.out], rfl⟩
      case rest =>
        obtain ⟨rfl, rfl⟩ := hcut
        clear HMd
        have HMt : Hid (m.data.toList = m1 s.data.toList) := by show _ = _; rw [Hm.out, str_data]
        have HBAD : Hid (chk false (m1 s.data.toList) = false → okb = false ∧ A = [] ∧ F = [] ∧ x = 0) := fun h => by
          have := HR.out
          rw [model_bad h] at this
          obtain ⟨a1, a2⟩ := Prod.mk.inj this
          obtain ⟨a3, a4⟩ := Prod.mk.inj a2
          obtain ⟨a5, a6⟩ := Prod.mk.inj a4
          exact ⟨a1.symm, a3.symm, a5.symm, a6.symm⟩
        go_upto_block 2 with fail
        go_cut [11] (fun d wx => chk false (m1 s.data.toList) = true ∧ d = .int .i64 dI ∧ w = wx)
        case first =>
          clear HR HIG HMX
          go_wp2_with fail
          go_loopg [11, 12] m.size (fun g v i wr => ∃ (k : Nat) (d : Int), k ≤ m.size ∧ g = m.size - k ∧ i = .int .i64 k ∧ v = .int .i64 d ∧ -1 ≤ d ∧ w = wr ∧ Hid (Seen (m1 s.data.toList) k d))
          case atStart => exact ⟨0, -1, Nat.zero_le _, rfl, rfl, rfl, by omega, rfl, .inl ⟨rfl, rfl, by simp⟩⟩
          case round =>
            obtain ⟨k, d, hk, hg, rfl, rfl, hd1, rfl, HK⟩ := hrel
            have HG : Hid (gk = m.size - k) := hg
            have hll : m.data.toList.length = m.size := by rw [Lib.size_eq]
            clear hg
            by_cases hlt : k < m.size
            · have hdc := drop_cons m k hlt
              rw [HMt.out] at hdc hll
              have hkk := HK.out
              unfold Seen at hkk
              rw [hdc] at hkk
              by_cases h46 : m[k].toNat = 46
              · have b1 : ((m[k].toNat : Int) == 46) = true := by simp [h46]
                rcases hkk with ⟨hd, hc, hi⟩ | ⟨hd, hdi, hlt2, hc⟩
                · rw [chk_dot_first h46] at hc
                  rw [ipt_yes h46] at hi
                  have HK2 : Hid (Seen (m1 s.data.toList) (k + 1) (k : Int)) := .inr ⟨by omega, by rw [hi]; simp, by rw [hi, hll]; simpa using hlt, hc⟩
                  subst hd
                  clear hc hi hdc h46 HK hll HBAD
                  go_wp2
                  go_roundg (m.size - (k + 1))
                  case measure => have := HG.out; omega
                  case rel => exact ⟨k + 1, (k : Int), by omega, rfl, by go_num, rfl, by omega, rfl, HK2⟩
                · rw [chk_dot_again h46] at hc
                  obtain ⟨rfl, rfl, rfl, rfl⟩ := HBAD.out hc
                  clear hc hdi hlt2 hdc h46 HK hll HBAD
                  go_wp2
                  exact bodyPost_ret (v := .tuple #[.bool false, .string (str []), .string (str []), .int .i64 0]) (by simp [results, Try.results9, go_sem]; rfl) rfl ⟨rfl, rfl⟩
              · have b1 : ((m[k].toNat : Int) == 46) = false := by simp; omega
                by_cases hD : isD m[k] = true
                · have hC := fun w => isDigit_any m[k] w
                  rw [hD] at hC
                  rw [chk_dig h46 hD, chk_dig h46 hD, ipt_no h46] at hkk
                  have HK2 : Hid (Seen (m1 s.data.toList) (k + 1) d) := by
                    rcases hkk with ⟨hd, hc, hi⟩ | ⟨hd, hdi, hlt2, hc⟩
                    · exact .inl ⟨hd, hc, by rw [hi, List.length_cons]; omega⟩
                    · exact .inr ⟨hd, hdi, hlt2, hc⟩
                  clear hkk hdc h46 HK hll HBAD hD
                  go_wp2_with (go_at_call 14; refine (hC _).mono ?_; rintro e w' ⟨rfl, rfl⟩)
                  go_roundg (m.size - (k + 1))
                  case measure => have := HG.out; omega
                  case rel => exact ⟨k + 1, d, by omega, rfl, by go_num, rfl, by omega, rfl, HK2⟩
                · have hD' : isD m[k] = false := by simpa using hD
                  have hC := fun w => isDigit_any m[k] w
                  rw [hD'] at hC
                  rw [chk_bad h46 hD', chk_bad h46 hD'] at hkk
                  have hc : chk false (m1 s.data.toList) = false := by
                    rcases hkk with ⟨_, hc, _⟩ | ⟨_, _, _, hc⟩ <;> exact hc
                  obtain ⟨rfl, rfl, rfl, rfl⟩ := HBAD.out hc
                  clear hc hkk hdc h46 HK hll HBAD hD hD'
                  go_wp2_with (go_at_call 14; refine (hC _).mono ?_; rintro e w' ⟨rfl, rfl⟩)
                  exact bodyPost_ret (v := .tuple #[.bool false, .string (str []), .string (str []), .int .i64 0]) (by simp [results, Try.results9, go_sem]; rfl) rfl ⟨rfl, rfl⟩
            · have hkk := HK.out
              unfold Seen at hkk
              have hdr : (m1 s.data.toList).drop k = [] := by rw [← HMt.out]; exact drop_end (by omega)
              rw [hdr] at hkk
              rw [HMt.out] at hll
              have hE : chk false (m1 s.data.toList) = true ∧ d = dI := by
                have hdd := Hd.out
                unfold dpos at hdd
                rcases hkk with ⟨hd, hc, hi⟩ | ⟨hd, hdi, hlt2, hc⟩
                · refine ⟨hc, ?_⟩
                  rw [if_neg (by rw [hi, hll]; simp [ipt]; omega)] at hdd
                  omega
                · refine ⟨hc, ?_⟩
                  rw [if_pos hlt2] at hdd
                  omega
              obtain ⟨hc, rfl⟩ := hE
              have HC : Hid (chk false (m1 s.data.toList) = true) := hc
              clear hkk hc hdr HK hll HBAD Hd
              go_wp2
              go_meet
              case rel => exact ⟨HC.out, rfl, rfl⟩
        case rest =>
          obtain ⟨hck, rfl, rfl⟩ := hcut
          have HCK : Hid (chk false (m1 s.data.toList) = true) := hck
          clear hck HBAD
          go_upto_region 28 with fail
          iterate 8 go_step
          go_cut [14, 15] (fun a b wx => a = .string I ∧ b = .string G ∧ w = wx)
          case first =>
            obtain ⟨hI, hG⟩ := HIG.out
            have hll : m.data.toList.length = m.size := by rw [Lib.size_eq]
            have hdd := Hd.out
            unfold dpos at hdd
            have hil := ipt_le (m1 s.data.toList)
            have hit := ipt_take (m1 s.data.toList)
            unfold fpt at hG
            rw [← HMt.out] at hI hG hdd hil hit
            rw [hit] at hI
            generalize (ipt m.data.toList).length = P at hI hG hdd hil hit
            rw [← str_extract_to] at hI
            rw [← str_extract_from] at hG
            clear HR HIG HMX Hm HY
            by_cases hlt : P < m.size
            · rw [if_pos (by omega)] at hdd
              subst hdd hI hG
              clear hit Hd HMt hMs hXs HCK
              go_wp2
              go_meet
              case rel => exact ⟨rfl, rfl, rfl⟩
            · rw [if_neg (by omega)] at hdd
              have hI' : I = m := by
                rw [hI, str_extract_to, List.take_of_length_le (by omega), str_of]
              have hG' : G = { data := #[] } := by
                rw [hG, str_extract_from, List.drop_eq_nil_of_le (by omega)]; rfl
              subst hdd hG'
              have HII : Hid (I = m) := hI'
              clear hit Hd HMt hMs hXs hI hI' hG HCK
              go_wp2
              go_meet
              case rel => exact ⟨by rw [HII.out], rfl, rfl⟩
          case rest =>
            obtain ⟨rfl, rfl, rfl⟩ := hcut
            have HGO : Hid (model s.data.toList = if ipt (m1 s.data.toList) = [] ∧ fpt (m1 s.data.toList) = [] then fail4
                else if he then (if Y = [] ∨ Y.all isD = false then fail4 else (true, ipt (m1 s.data.toList), fpt (m1 s.data.toList), if en then - f10 ((strip Y).take 9) else f10 ((strip Y).take 9)))
                else (true, ipt (m1 s.data.toList), fpt (m1 s.data.toList), 0)) := by
              show _ = _
              rw [model_good HCK.out, HY.out.1, HY.out.2, HMX.out.2.2]
              rfl
            have HXd : Hid (X.data.toList = exs s.data.toList) := by show _ = _; rw [HMX.out.2.1, str_data]
            clear HCK Hd HMX Hm HMt hms hMs
            iterate 2 go_step
            go_cut [] (fun wx => ¬ (ipt (m1 s.data.toList) = [] ∧ fpt (m1 s.data.toList) = []) ∧ w = wx)
            case first =>
              have hA : I.toList.isEmpty = (ipt (m1 s.data.toList)).isEmpty := by rw [HIG.out.1, str_isEmpty]
              have hB : G.toList.isEmpty = (fpt (m1 s.data.toList)).isEmpty := by rw [HIG.out.2, str_isEmpty]
              have hg := HGO.out
              rw [HR.out] at hg
              clear HR HIG HGO HY HXd
              by_cases hD1 : ipt (m1 s.data.toList) = []
              · by_cases hD2 : fpt (m1 s.data.toList) = []
                · have hA' : I.toList.isEmpty = true := by rw [hA, hD1]; rfl
                  have hB' : G.toList.isEmpty = true := by rw [hB, hD2]; rfl
                  rw [if_pos ⟨hD1, hD2⟩] at hg
                  obtain ⟨rfl, rfl, rfl, rfl⟩ := four hg
                  clear hD1 hD2 hA hB hg
                  go_wp2
                  exact bodyPost_ret (v := .tuple #[.bool false, .string (str []), .string (str []), .int .i64 0]) (by simp [results, Try.results9, go_sem]; rfl) rfl ⟨rfl, rfl⟩
                · have hA' : I.toList.isEmpty = true := by rw [hA, hD1]; rfl
                  have hB' : G.toList.isEmpty = false := by rw [hB]; exact isEmpty_no hD2
                  have HN : Hid (¬ (ipt (m1 s.data.toList) = [] ∧ fpt (m1 s.data.toList) = [])) := fun h => hD2 h.2
                  clear hD1 hD2 hA hB hg
                  go_wp2
                  go_meet
                  case rel => exact ⟨HN.out, rfl⟩
              · have hA' : I.toList.isEmpty = false := by rw [hA]; exact isEmpty_no hD1
                have HN : Hid (¬ (ipt (m1 s.data.toList) = [] ∧ fpt (m1 s.data.toList) = [])) := fun h => hD1 h.1
                clear hD1 hA hB hg
                go_wp2
                go_meet
                case rel => exact ⟨HN.out, rfl⟩
            case rest =>
              obtain ⟨hem, rfl⟩ := hcut
              have hg := HGO.out
              rw [HR.out, if_neg hem] at hg
              obtain ⟨hI, hG⟩ := HIG.out
              generalize ipt (m1 s.data.toList) = D1 at hI hg
              generalize fpt (m1 s.data.toList) = D2 at hG hg
              subst hI hG
              clear HR HIG HGO hem
              cases he
              · rw [if_neg (by simp)] at hg
                obtain ⟨rfl, rfl, rfl, rfl⟩ := four hg
                clear hg HY HXd
                go_wp2
                exact bodyPost_ret (v := .tuple #[.bool true, .string (str D1), .string (str D2), .int .i64 0]) (by simp [results, Try.results9, go_sem]) rfl ⟨rfl, rfl⟩
              · rw [if_pos rfl] at hg
                have HG : Hid ((okb, A, F, x) = if Y = [] ∨ Y.all isD = false then fail4 else (true, D1, D2, if en then - f10 ((strip Y).take 9) else f10 ((strip Y).take 9))) := hg
                clear hg
                go_upto_region 36 with fail
                iterate 8 go_step
                go_cut [9, 17] (fun a b wx => a = .string (str Y) ∧ b = .bool en ∧ w = wx)
                case first =>
                  obtain ⟨hY, hen⟩ := HY.out
                  rw [← HXd.out] at hY hen
                  clear HG HY HXd
                  rcases hL : X.data.toList with _ | ⟨c, r⟩
                  · have hz : X.size = 0 := by rw [Lib.size_eq, hL]; rfl
                    have hYX : str Y = X := by rw [hY, hL, ← str_of X, hL]; rfl
                    have hen' : en = false := by rw [hen, hL]; rfl
                    subst hen'
                    have HYX : Hid (str Y = X) := hYX
                    clear hY hen hL hYX
                    go_wp2
                    go_meet
                    case rel => exact ⟨by rw [HYX.out], rfl, rfl⟩
                  · obtain ⟨hn, hc⟩ := at_pos (s := X) (n := 0) hL
                    subst hc
                    have hmE : Hid (sg (X.data.toList) = 1 → str Y = X.extract 1 X.size) := fun h => by rw [hY, h, str_extract_from]
                    have hmN : Hid (sg (X.data.toList) = 0 → str Y = X) := fun h => by rw [hY, h]; exact str_of X
                    rw [hL] at hmE hmN hen
                    clear hY hL
                    by_cases h43 : X[0].toNat = 43
                    · have b1 : ((X[0].toNat : Int) == 43) = true := by simp [h43]
                      have b2 : ((X[0].toNat : Int) == 45) = false := by simp [h43]
                      have HMM : Hid (str Y = X.extract 1 X.size) := hmE.out (sg_cons (.inl h43))
                      rw [ng_no (by omega)] at hen
                      subst hen
                      clear hmE hmN h43
                      go_wp2
                      go_meet
                      case rel => exact ⟨by rw [HMM.out], rfl, rfl⟩
                    · by_cases h45 : X[0].toNat = 45
                      · have b1 : ((X[0].toNat : Int) == 43) = false := by simp [h45]
                        have b2 : ((X[0].toNat : Int) == 45) = true := by simp [h45]
                        have HMM : Hid (str Y = X.extract 1 X.size) := hmE.out (sg_cons (.inr h45))
                        rw [ng_yes h45] at hen
                        subst hen
                        clear hmE hmN h43 h45
                        go_wp2
                        go_meet
                        case rel => exact ⟨by rw [HMM.out], rfl, rfl⟩
                      · have b1 : ((X[0].toNat : Int) == 43) = false := by simp; omega
                        have b2 : ((X[0].toNat : Int) == 45) = false := by simp; omega
                        have HMM : Hid (str Y = X) := hmN.out (sg_cons_no (by omega))
                        rw [ng_no h45] at hen
                        subst hen
                        clear hmE hmN h43 h45
                        go_wp2
                        go_meet
                        case rel => exact ⟨by rw [HMM.out], rfl, rfl⟩
                case rest =>
                  obtain ⟨rfl, rfl, rfl⟩ := hcut
                  clear HY HXd
                  have hYz : (str Y).size ≤ 9223372036854775806 := by rw [str_size]; omega
                  have hAll := fun w => allDigits_any (str Y) (Y.all isD) (by rw [str_data]) hYz w
                  iterate 2 go_step
                  go_cut [] (fun wx => (Y ≠ [] ∧ Y.all isD = true) ∧ w = wx)
                  case first =>
                    have hA := str_isEmpty Y
                    by_cases hYe : Y = []
                    · have hA' : (str Y).toList.isEmpty = true := by rw [hA, hYe]; rfl
                      have hg := HG.out
                      rw [if_pos (.inl hYe)] at hg
                      obtain ⟨rfl, rfl, rfl, rfl⟩ := four hg
                      clear hg HG hA hYe hAll
                      go_wp2
                      exact bodyPost_ret (v := .tuple #[.bool false, .string (str []), .string (str []), .int .i64 0]) (by simp [results, Try.results9, go_sem]; rfl) rfl ⟨rfl, rfl⟩
                    · have hA' : (str Y).toList.isEmpty = false := by rw [hA]; exact isEmpty_no hYe
                      by_cases hall : Y.all isD = true
                      · rw [hall] at hAll
                        have HN : Hid (Y ≠ [] ∧ Y.all isD = true) := ⟨hYe, hall⟩
                        clear HG hA hYe hall
                        go_wp2_with (go_at_call 15; refine (hAll _).mono ?_; rintro e w' ⟨rfl, rfl⟩)
                        go_meet
                        case rel => exact ⟨HN.out, rfl⟩
                      · have hall' : Y.all isD = false := by simpa using hall
                        rw [hall'] at hAll
                        have hg := HG.out
                        rw [if_pos (.inr hall')] at hg
                        obtain ⟨rfl, rfl, rfl, rfl⟩ := four hg
                        clear hg HG hA hYe hall hall'
                        go_wp2_with (go_at_call 15; refine (hAll _).mono ?_; rintro e w' ⟨rfl, rfl⟩)
                        exact bodyPost_ret (v := .tuple #[.bool false, .string (str []), .string (str []), .int .i64 0]) (by simp [results, Try.results9, go_sem]; rfl) rfl ⟨rfl, rfl⟩
                  case rest =>
                    obtain ⟨⟨hYe, hall⟩, rfl⟩ := hcut
                    have hg := HG.out
                    rw [if_neg (by simp [hYe, hall])] at hg
                    obtain ⟨rfl, rfl, rfl, hxx⟩ := four hg
                    have HX2 : Hid ((if en then - f10 ((strip Y).take 9) else f10 ((strip Y).take 9)) = x) := hxx
                    have hds : ∀ c ∈ (strip Y).take 9, 48 ≤ c.toNat ∧ c.toNat ≤ 57 := fun c hc => isD_iff.1 (List.all_eq_true.1 hall c (strip_mem (List.mem_of_mem_take hc)))
                    have HDS : Hid (∀ c ∈ (strip Y).take 9, 48 ≤ c.toNat ∧ c.toNat ≤ 57) := hds
                    have hSt := fun w => strip_any (str Y) (strip Y) (by rw [str_data]) hYz w
                    have hSl : (str (strip Y)).size ≤ s.size := by
                      rw [str_size]
                      have := (List.dropWhile_sublist isZ (l := Y)).length_le
                      unfold strip
                      omega
                    have HS9 : Hid (str ((strip Y).take 9) = (str (strip Y)).extract 0 9) := by show _ = _; rw [str_extract_to, str_data]
                    have HS0 : Hid ((str (strip Y)).size ≤ 9 → str ((strip Y).take 9) = str (strip Y)) := fun h => by rw [str_size] at h; rw [List.take_of_length_le h]
                    have HZl : Hid (((strip Y).take 9).length ≤ 9) := by show _ ≤ _; simp; omega
                    clear hg HG hxx hYe hall hAll hds
                    generalize str (strip Y) = S at hSt hSl HS9 HS0
                    generalize (strip Y).take 9 = Z at HX2 HDS HS9 HS0 HZl
                    go_upto_if 125 with (go_at_call 16; refine (hSt _).mono ?_; rintro e w' ⟨rfl, rfl⟩)
                    go_cut [18] (fun a wx => a = .string (str Z) ∧ w = wx)
                    case first =>
                      clear HX2 HDS hSt
                      by_cases h9 : S.size ≤ 9
                      · have HSS := HS0.out h9
                        have HSS' : Hid (str Z = S) := HSS
                        clear HSS HS9 HS0
                        go_wp2
                        go_meet
                        case rel => exact ⟨by rw [HSS'.out], rfl⟩
                      · have h9' : 9 < S.size := by omega
                        clear HS0
                        go_wp2
                        go_meet
                        case rel => exact ⟨by rw [HS9.out], rfl⟩
                    case rest =>
                      obtain ⟨rfl, rfl⟩ := hcut
                      clear HS9 HS0 hSt
                      have hZ9 : (str Z).size ≤ 9 := by rw [str_size]; exact HZl.out
                      have HZd : Hid ((str Z).data.toList = Z) := str_data Z
                      generalize str Z = zz at hZ9 HZd
                      go_wp2_with fail
                      go_loop [16, 19] (fun v i => ∃ (k : Nat) (a : Int), k ≤ zz.size ∧ i = .int .i64 k ∧ v = .int .i64 a ∧ 0 ≤ a ∧ a ≤ 1000000000 ∧ Hid (a < 10 ^ k ∧ f10 Z = (Z.drop k).foldl (fun a c => a * 10 + ((c.toNat : Int) - 48)) a)) (fun _ i => zz.size - (intOf i).toNat)
                      case atStart => exact ⟨0, 0, Nat.zero_le _, rfl, rfl, by omega, by omega, by simp, rfl⟩
                      case round =>
                        obtain ⟨k, a, hk, rfl, rfl, ha0, ha1, HK⟩ := hrel
                        by_cases hlt : k < zz.size
                        · obtain ⟨hak, hfo⟩ := HK.out
                          have hdc := drop_cons zz k hlt
                          rw [HZd.out] at hdc
                          rw [hdc, List.foldl_cons] at hfo
                          have hc := HDS.out zz[k] (List.mem_of_mem_drop (i := k) (by rw [hdc]; exact List.mem_cons_self ..))
                          have hp := pow_le_nine (k := k + 1) (by omega)
                          have e1 : (10 : Int) ^ (k + 1) = 10 ^ k * 10 := Int.pow_succ ..
                          obtain ⟨hc0, hc1⟩ := hc
                          have hb : a * 10 + ((zz[k].toNat : Int) - 48) ≤ 1000000000 := by omega
                          have HK2 : Hid (a * 10 + ((zz[k].toNat : Int) - 48) < 10 ^ (k + 1) ∧ f10 Z = (Z.drop (k + 1)).foldl (fun a c => a * 10 + ((c.toNat : Int) - 48)) (a * 10 + ((zz[k].toNat : Int) - 48))) := ⟨by omega, hfo⟩
                          clear hak hfo hdc hp e1 HK
                          go_wp2
                          go_round
                          case rel => exact ⟨k + 1, a * 10 + ((zz[k].toNat : Int) - 48), by omega, by go_num, by first | rfl | (congr 1; omega), by omega, by omega, HK2⟩
                          case measure => simp [intOf]; omega
                        · obtain ⟨_, hfo⟩ := HK.out
                          have hdr : Z.drop k = [] := by rw [← HZd.out]; exact drop_end (by omega)
                          rw [hdr] at hfo
                          have hx := HX2.out
                          have hfa : f10 Z = a := hfo
                          rw [hfa] at hx
                          clear hfo hdr HK HX2 hfa
                          cases en
                          · rw [if_neg (by simp)] at hx
                            subst hx
                            go_wp2
                            exact bodyPost_ret (v := .tuple #[.bool true, .string (str D1), .string (str D2), .int .i64 a]) (by simp [results, Try.results9, go_sem]) rfl ⟨rfl, rfl⟩
                          · rw [if_pos rfl] at hx
                            subst hx
                            go_wp2
                            exact bodyPost_ret (v := .tuple #[.bool true, .string (str D1), .string (str D2), .int .i64 (-a)]) (by simp [results, Try.results9, go_sem]) rfl ⟨rfl, rfl⟩
end Go.Proofs.Qxb6601144a
