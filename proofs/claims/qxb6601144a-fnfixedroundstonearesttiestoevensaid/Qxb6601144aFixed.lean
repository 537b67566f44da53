/-
  DERIVED. (Decimal).fixed, walked.
-/
import Derived.Test.Qxb6601144aHelp3
import Derived.Test.Qxb6601144aApp
import Derived.Deep.DeepCutAuto
import Derived.Deep.CutBlock
namespace Go.Proofs.Qxb6601144a
open Go.RowKit Go.Joins

/-- Is the number cut behind all but dr digits rounded up? -/
def upB (D : List UInt8) (dr : Nat) : Bool :=
  if D.length < dr then false
  else if (D.getD (D.length - dr) 0).toNat ≠ 53 then decide (53 < (D.getD (D.length - dr) 0).toNat)
  else if D.length - dr + 1 < D.length then true
  else decide (0 < D.length - dr ∧ ((D.getD (D.length - dr - 1) 0).toNat - 48) % 2 = 1)
def rnd (D : List UInt8) (dr : Nat) : List UInt8 := if upB D dr then incL (D.take (D.length - dr)) else D.take (D.length - dr)
/-- The digits and the exponent that are written. -/
def kept (D : List UInt8) (ex : Int) (dec : Nat) : List UInt8 := if 0 < - (dec : Int) - ex then rnd D (- (dec : Int) - ex).toNat else D
def kexp (ex : Int) (dec : Nat) : Int := if 0 < - (dec : Int) - ex then - (dec : Int) else ex

/-- The digits as they are laid out: zeros ahead so that one stands before the point. -/
def padN (L : List UInt8) (dec : Nat) : Nat := dec + 1 - L.length
def laidOut (K : List UInt8) (zn dec : Nat) : List UInt8 := zer (padN (K ++ zer zn) dec) ++ (K ++ zer zn)
def sgnL (neg : Bool) : List UInt8 := if neg then [45] else []
def shown (neg : Bool) (WL : List UInt8) (dec : Nat) : List UInt8 := sgnL neg ++ WL.take (WL.length - dec) ++ (if 0 < dec then 46 :: WL.drop (WL.length - dec) else [])

set_option maxHeartbeats 4000000 in
set_option maxRecDepth 10000 in
theorem fixed_core (neg : Bool) (D : List UInt8) (ex : Int) (dec : Nat) (hd : Dig D) (hD : D.length ≤ 65536) (he0 : -65536 ≤ ex) (he1 : ex ≤ 65536) (hdec : dec ≤ 65536) (w : World)
    (K : List UInt8) (e' : Int) (HK : Hid (K = kept D ex dec ∧ e' = kexp ex dec)) (hKl : K.length ≤ 65537) (zn : Nat) (HZ : Hid (e' + (dec : Int) = (zn : Int))) (hzn : zn ≤ 131072)
    (WL : List UInt8) (HW : Hid (WL = laidOut K zn dec)) (R : List UInt8) (HR : Hid (R = shown neg WL dec)) :
    Calls Try.prog 22 #[.agg #[.bool neg, .string (str D), .int .i64 ex], .int .i64 (dec : Int)] w fun e w' => e = .returned (.string (str R)) ∧ Below w.heap.size w w' := by
  go_enter Try.func22, Try.ntmps22
  go_wp2
  go_quiet (fail)
  have hN : ((w.alloc (.cells #[.bool neg, .string (str D), .int .i64 ex] 39)).drewN nq).cell? ⟨w.heap.size, 0, none⟩ = some (.bool neg) := World.cell?_alloc_at _ _ _ _ rfl
  have hB0 : Below w.heap.size w ((w.alloc (.cells #[.bool neg, .string (str D), .int .i64 ex] 39)).drewN nq) := ((Below.refl _ _).alloc (Nat.le_refl _) _).trans (below_draws _ _ _)
  have hS0 : w.heap.size < ((w.alloc (.cells #[.bool neg, .string (str D), .int .i64 ex] 39)).drewN nq).heap.size := by show _ < (w.alloc _).heap.size; simp
  generalize (w.alloc (.cells #[.bool neg, .string (str D), .int .i64 ex] 39)).drewN nq = W0 at hN hB0 hS0 ⊢
  have HDig : Hid (Dig D) := hd
  have HSz : Hid ((str D).size = D.length) := str_size D
  clear hd
  iterate 3 go_step
  go_cut [5, 6] (fun a b wx => a = .string (str K) ∧ b = .int .i64 e' ∧ Below W0.heap.size W0 wx)
  case first =>
    clear hN hB0 hS0
    obtain ⟨hK, he⟩ := HK.out
    unfold kept at hK
    unfold kexp at he
    by_cases hdrop : 0 < - (dec : Int) - ex
    · rw [if_pos hdrop] at hK he
      obtain ⟨dr, hdr⟩ : ∃ dr : Nat, - (dec : Int) - ex = (dr : Int) := ⟨(- (dec : Int) - ex).toNat, by omega⟩
      rw [hdr] at hdrop hK
      rw [Int.toNat_natCast] at hK
      have hsz : (str D).size = D.length := HSz.out
      obtain ⟨up, hup⟩ : ∃ u, u = upB D dr := ⟨_, rfl⟩
      unfold rnd at hK
      rw [← hup] at hK
      have HK2 : Hid (K = if up then incL (D.take (D.length - dr)) else D.take (D.length - dr)) := hK
      have HU : Hid (up = upB D dr) := hup
      subst he
      clear hK hup HK
      have hD1 : (str D).size ≤ 65536 := by omega
      obtain ⟨kI, hkI⟩ : ∃ kI : Int, (D.length : Int) - (dr : Int) = kI := ⟨_, rfl⟩
      have hk1 : kI ≤ 65536 := by omega
      have hk2 : -131072 ≤ kI := by omega
      go_upto_region 5 with fail
      have HKI : Hid ((D.length : Int) - (dr : Int) = kI) := hkI
      have HDR : Hid (- (dec : Int) - ex = (dr : Int)) := hdr
      clear hkI hdr
      iterate 8 go_step
      go_cut [8, 9] (fun k u wx => k = .int .i64 kI ∧ u = .bool up ∧ W0 = wx)
      case first =>
        have hu := HU.out
        unfold upB at hu
        by_cases hlt : D.length < dr
        · rw [if_pos hlt] at hu
          subst hu
          have hneg : kI < 0 := by have := HKI.out; omega
          clear HU HK2 HDig
          go_wp2
          go_meet
          case rel => exact ⟨rfl, rfl, rfl⟩
        · rw [if_neg hlt] at hu
          obtain ⟨k, hk⟩ : ∃ k : Nat, kI = (k : Int) := ⟨kI.toNat, by have := HKI.out; omega⟩
          subst hk
          have hkn : D.length - dr = k := by have := HKI.out; omega
          have hkl : k < D.length := by have := HKI.out; omega
          rw [hkn] at hu
          have hkS : k < (str D).size := by omega
          have hc1 : (str D)[k] = D.getD k 0 := by
            rw [getD_at hkl]
            rfl
          have hkI' : (k : Int) < (D.length : Int) := by omega
          clear hkn hlt HKI
          generalize D.getD k 0 = c at hc1 hu
          by_cases h53 : c.toNat = 53
          · rw [if_neg (fun h => h h53)] at hu
            have b1 : ((c.toNat : Int) != 53) = false := by simp [h53]
            by_cases hk1n : k + 1 < D.length
            · rw [if_pos hk1n] at hu
              subst hu
              have hk1I : (k : Int) + 1 < (D.length : Int) := by omega
              clear HU HK2 HDig h53
              go_wp2
              go_meet
              case rel => exact ⟨rfl, rfl, rfl⟩
            · rw [if_neg hk1n] at hu
              have hk1I : (D.length : Int) ≤ (k : Int) + 1 := by omega
              by_cases hk0 : k = 0
              · subst hk0
                have hu' : up = false := by rw [hu]; simp
                subst hu'
                clear HU HK2 HDig h53 hu
                go_wp2
                go_meet
                case rel => exact ⟨rfl, rfl, rfl⟩
              · have hk0' : 0 < k := by omega
                have hkm : k - 1 < (str D).size := by omega
                have hc2 : (str D)[k - 1] = D.getD (k - 1) 0 := by
                  rw [getD_at (by omega)]
                  rfl
                have hdg := HDig.out (D.getD (k - 1) 0) (by rw [getD_at (by omega)]; exact List.getElem_mem _)
                generalize D.getD (k - 1) 0 = d at hc2 hu hdg
                obtain ⟨hd0, hd1⟩ := hdg
                have hki : (k : Int) - 1 = ((k - 1 : Nat) : Int) := by omega
                have HUF : Hid ((((d.toNat : Int) - 48) % 2 == 1) = up) := by
                  show _ = _
                  rw [hu]
                  by_cases hp : (d.toNat - 48) % 2 = 1
                  · rw [decide_eq_true ⟨hk0', hp⟩]
                    simp; omega
                  · rw [decide_eq_false (fun h => hp h.2)]
                    simp; omega
                clear HU HK2 HDig h53 hu
                go_wp2
                go_meet
                case rel => exact ⟨rfl, congrArg Value.bool HUF.out, rfl⟩
          · rw [if_pos h53] at hu
            have b1 : ((c.toNat : Int) != 53) = true := by simp; omega
            by_cases hgt : 53 < c.toNat
            · have hu' : up = true := by rw [hu]; exact decide_eq_true hgt
              subst hu'
              have hgI : 53 < (c.toNat : Int) := by omega
              clear HU HK2 HDig h53 hu
              go_wp2
              go_meet
              case rel => exact ⟨rfl, rfl, rfl⟩
            · have hu' : up = false := by rw [hu]; exact decide_eq_false hgt
              subst hu'
              have hgI : (c.toNat : Int) ≤ 53 := by omega
              clear HU HK2 HDig h53 hu hgt
              go_wp2
              go_meet
              case rel => exact ⟨rfl, congrArg Value.bool (decide_eq_false (by omega)), rfl⟩
      case rest =>
        obtain ⟨rfl, rfl, rfl⟩ := hcut
        have hmx : max kI 0 = ((D.length - dr : Nat) : Int) := by have := HKI.out; omega
        have hkle : ((D.length - dr : Nat) : Int) ≤ (D.length : Int) := by omega
        have HEX : Hid (str (D.take (D.length - dr)) = (str D).extract 0 (D.length - dr)) := by
          show _ = _
          rw [extract_str, str_data]
          rfl
        have hInc := fun w => increment_any (D.take (D.length - dr)) (HDig.out.take _) (by rw [List.length_take]; omega) w
        rw [HEX.out] at hInc
        clear HU HKI HDR HDig
        cases up
        · have HKK : Hid (K = D.take (D.length - dr)) := by have := HK2.out; rw [if_neg (by simp)] at this; exact this
          clear HK2 hInc
          go_wp2
          go_meet
          case rel => exact ⟨by rw [HKK.out, HEX.out], rfl, Below.refl _ _⟩
        · have HKK : Hid (K = incL (D.take (D.length - dr))) := by have := HK2.out; rw [if_pos rfl] at this; exact this
          clear HK2
          go_wp2_with (go_at_call 24; refine (hInc _).mono ?_; rintro e w1 ⟨rfl, hbi⟩)
          go_meet
          case rel => exact ⟨by rw [HKK.out], rfl, hbi⟩
    · rw [if_neg hdrop] at hK he
      subst hK he
      have hdrop' : - (dec : Int) - e' ≤ 0 := by omega
      clear HK hdrop
      go_wp2
      go_meet
      case rel => exact ⟨rfl, rfl, Below.refl _ _⟩
  case rest =>
    obtain ⟨rfl, rfl, hb1⟩ := hcut
    have hN1 : wc.cell? ⟨w.heap.size, 0, none⟩ = some (.bool neg) := (hb1.cell (p := ⟨w.heap.size, 0, none⟩) hS0).trans hN
    have hS1 := hb1.size
    have HN0 : Hid (W0.cell? ⟨w.heap.size, 0, none⟩ = some (.bool neg)) := hN
    clear HK HDig HSz hN
    have hz := HZ.out
    have hRep := fun w => rep_any zn (by omega) w
    have hsK : (str K).size = K.length := str_size K
    have hsZ : (str (zer zn)).size = zn := by rw [str_size, zer_length]
    go_wp2_with (go_at_call 25; refine (hRep _).mono ?_)
    rintro e w2 ⟨rfl, hb2⟩
    have hb02 : Below W0.heap.size W0 w2 := hb1.trans (hb2.mono hS1)
    have hN2 : w2.cell? ⟨w.heap.size, 0, none⟩ = some (.bool neg) := (hb2.cell (p := ⟨w.heap.size, 0, none⟩) (show w.heap.size < wc.heap.size by omega)).trans hN1
    have hS2 := hb02.size
    obtain ⟨L, hL⟩ : ∃ L, L = K ++ zer zn := ⟨_, rfl⟩
    obtain ⟨W3, cap3, hcv0, hbt3, hb3⟩ := Bts.conv w2 L
    have hcv : (convert 9 40 (.string (str K ++ str (zer zn)))).run Try.prog w2 = .ok (.slice (some ⟨w2.heap.size, 0, none⟩) L.length cap3) W3 := by
      rw [cat_str, ← hL]; exact hcv0
    have hlL : L.length ≤ 200000 := by rw [hL, List.length_append, zer_length]; omega
    have HWp : Hid (WL = zer (dec + 1 - L.length) ++ L) := by
      have := HW.out
      unfold laidOut padN at this
      rw [← hL] at this
      exact this
    clear hRep hN1 hb1 hS1 hb2 hz HZ HW hcv0 hL
    simp only []
    iterate 14 (first | go_values | go_skip | go_guarded | go_step | go_upon)
    have hb03 : Below W0.heap.size W0 W3 := hb02.trans (hb3.mono hS2)
    have hN3 : W3.cell? ⟨w.heap.size, 0, none⟩ = some (.bool neg) := (hb3.cell (p := ⟨w.heap.size, 0, none⟩) (show w.heap.size < w2.heap.size by omega)).trans hN2
    have hWl : dec + 1 ≤ WL.length ∧ WL.length ≤ 300000 := by
      have := congrArg List.length HWp.out
      rw [List.length_append, zer_length] at this
      omega
    obtain ⟨hWl1, hWl2⟩ := hWl
    clear hcv hN2 hsK hsZ
    go_cut [11] (fun v wx => Has wx W0.heap.size v WL ∧ Below W0.heap.size W0 wx)
    case first =>
      by_cases hp : dec + 1 ≤ L.length
      · have hWL : WL = L := by
          rw [HWp.out, show dec + 1 - L.length = 0 by omega]; rfl
        subst hWL
        have hpI : (dec : Int) + 1 - (WL.length : Int) ≤ 0 := by omega
        have hhas := hbt3.has (base := W0.heap.size) (by omega)
        clear HWp HR hbt3 hp
        go_wp2
        go_meet
        case rel => exact ⟨hhas, hb03⟩
      · obtain ⟨pd, hpd⟩ : ∃ pd : Nat, (dec : Int) + 1 - (L.length : Int) = (pd : Int) := ⟨dec + 1 - L.length, by omega⟩
        have hpdn : dec + 1 - L.length = pd := by omega
        have hpp : 0 < pd := by omega
        have hpu : pd ≤ 65537 := by omega
        have HWq : Hid (WL = zer pd ++ L) := by have := HWp.out; rw [hpdn] at this; exact this
        have hRep := fun w => rep_any pd (by omega) w
        clear HWp hpdn hp
        go_wp2_with (go_at_call 25; refine (hRep _).mono ?_)
        rintro e w4 ⟨rfl, hb4⟩
        obtain ⟨W5, cap5, hcv, hbt5, hb5⟩ := Bts.conv w4 (zer pd)
        have hb05 : Below W0.heap.size W0 W5 := (hb03.trans (hb4.mono hb03.size)).trans (hb5.mono (hb03.trans (hb4.mono hb03.size)).size)
        have hs4 := hb4.size
        have hs3 := hb3.size
        have hlt3 := hbt3.lt
        have hbt3' : Bts W5 w2.heap.size L cap3 := (hbt3.later hlt3 hb4).later (by omega) hb5
        have hne : zer pd ≠ [] := by
          intro h
          have := congrArg List.length h
          rw [zer_length] at this
          simp at this
          omega
        have hzlen : (zer pd).length + L.length ≤ 1000000000 := by rw [zer_length]; omega
        have hZb : W0.heap.size ≤ w4.heap.size := by omega
        have hcl : ∀ i, i < L.length → W5.cell? ⟨w2.heap.size, 0 + i, none⟩ = some (.int .u8 ((L.getD i 0).toNat : Int)) := fun i hi => by rw [Nat.zero_add]; exact hbt3'.cell hi
        clear hRep hb4
        go_wp2_with (at_builtin; refine app_conv _ rfl (.tmp 80) (.tmp 81) rfl W0.heap.size w4.heap.size cap5 (zer pd) hne rfl hbt5 hZb w2.heap.size 0 cap3 L rfl hcl hzlen ?_)
        intro v6 w6 hhas hb6
        rw [← HWq.out] at hhas
        have hb06 : Below W0.heap.size W0 w6 := hb05.trans hb6
        clear hcl hbt3' hbt5 hcv hbt3
        go_wp2
        go_meet
        case rel => exact ⟨hhas, hb06⟩
    case rest =>
      obtain ⟨W6, hW6⟩ : ∃ W, W = wc := ⟨_, rfl⟩
      subst hW6
      obtain ⟨⟨Bw, capw, rfl, hBb, hBs, hcp, hcl⟩, hb04⟩ := hcut
      have hN6 : W6.cell? ⟨w.heap.size, 0, none⟩ = some (.bool neg) := (hb04.cell (p := ⟨w.heap.size, 0, none⟩) hS0).trans HN0.out
      have hbw : Below w.heap.size w W6 := hB0.trans (hb04.mono (Nat.le_of_lt hS0))
      clear HWp hbt3 hb03 hN3 hb02 hb3 hB0 hb04 HN0
      go_upto_region 20 with fail
      iterate 8 go_step
      go_cut [13] (fun v wx => OwnB wx W6.heap.size v (sgnL neg) ∧ Below W6.heap.size W6 wx)
      case first =>
        cases neg
        · go_wp2
          go_meet
          case rel => exact ⟨OwnB.nil _ _, Below.refl _ _⟩
        · have hnl := OwnB.nil (W6.alloc (.cells #[.int .u8 45] 5)) W6.heap.size
          have hc45 : ∀ i, i < [(45 : UInt8)].length → (W6.alloc (.cells #[.int .u8 45] 5)).cell? ⟨W6.heap.size, 0 + i, none⟩ = some (.int .u8 (([(45 : UInt8)].getD i 0).toNat : Int)) := fun i hi => by
            have : i = 0 := by simp at hi; omega
            subst this
            rw [World.cell?_alloc_at _ _ _ _ rfl]
            rfl
          have hbs : W6.heap.size ≤ (W6.alloc (.cells #[.int .u8 45] 5)).heap.size := by simp
          go_wp2_with (at_builtin; refine app_own _ rfl (.tmp 85) (.tmp 86) rfl W6.heap.size _ [] rfl hnl W6.heap.size 0 1 1 [45] rfl rfl hc45 (by decide) hbs ?_)
          intro v6 w6 hown hb6
          have hb7 : Below W6.heap.size W6 w6 := ((Below.refl _ _).alloc (Nat.le_refl _) _).trans hb6
          clear hnl hc45 hbs
          go_wp2
          go_meet
          case rel => exact ⟨hown, hb7⟩
      case rest =>
        obtain ⟨hown, hb7⟩ := hcut
        obtain ⟨ip, hip⟩ : ∃ ip : Nat, (WL.length : Int) - (dec : Int) = (ip : Int) := ⟨WL.length - dec, by omega⟩
        have HIP : Hid (WL.length - dec = ip) := by show _ = _; omega
        have hipp : 0 < ip := by omega
        have hipl : ip ≤ WL.length := by omega
        have hipc : (ip : Int) ≤ (capw : Int) := by omega
        have HM1 : Hid (ip = (WL.take ip).length) := by show _ = _; rw [List.length_take]; omega
        have hc1 : ∀ i, i < (WL.take ip).length → wc.cell? ⟨Bw, 0 + i, none⟩ = some (.int .u8 (((WL.take ip).getD i 0).toNat : Int)) := fun i hi => by
          rw [List.length_take] at hi
          rw [Nat.zero_add, getD_take_lt _ _ _ _ (by omega)]
          exact (hb7.cell (p := ⟨Bw, i, none⟩) hBs).trans (hcl i (by omega))
        have hl1 : (sgnL neg).length + (WL.take ip).length ≤ 1000000000 := by
          have : (sgnL neg).length ≤ 1 := by cases neg <;> simp [sgnL]
          rw [List.length_take]; omega
        have hs7 := hb7.size
        go_wp2_with (at_builtin; refine app_own _ rfl (.tmp 88) (.tmp 94) rfl W6.heap.size _ (sgnL neg) rfl hown Bw 0 ip capw (WL.take ip) HM1.out rfl hc1 hl1 hs7 ?_)
        intro v8 w8 hown8 hb8
        have hb68 : Below W6.heap.size W6 w8 := hb7.trans hb8
        have hs8 := hb68.size
        clear hc1 hl1 hown
        have hne8 : sgnL neg ++ WL.take ip ≠ [] := by
          intro h
          have := congrArg List.length h
          rw [List.length_append, List.length_take, List.length_nil] at this
          omega
        obtain ⟨Q8, hQ8⟩ : ∃ Q, Q = sgnL neg ++ WL.take ip := ⟨_, rfl⟩
        have HQ8 : Hid (Q8 = sgnL neg ++ WL.take ip) := hQ8
        have hQl : Q8.length ≤ 300001 := by
          have : (sgnL neg).length ≤ 1 := by cases neg <;> simp [sgnL]
          rw [hQ8, List.length_append, List.length_take]; omega
        rw [← hQ8] at hown8 hne8
        clear hQ8
        by_cases hd0 : dec = 0
        · have HRR : Hid (R = Q8) := by
            show _ = _
            rw [HR.out, HQ8.out]
            unfold shown
            rw [if_neg (by omega), List.append_nil, HIP.out]
          have hd0' : (dec : Int) ≤ 0 := by omega
          obtain ⟨B8, c8, rfl, h81, h82, h83, h84⟩ := has_own hown8 hne8
          have hrun := str_run (off := 0) (fun i hi => by rw [Nat.zero_add]; exact h84 i hi) c8
          have hend : Below w.heap.size w w8 := hbw.trans (hb68.mono hbw.size)
          clear hown8 h84 hne8 hcl HIP hd0
          go_wp2
          go_ret
          exact ⟨by rw [HRR.out]; rfl, hend⟩
        · have hd0' : 0 < (dec : Int) := by omega
          have hnl : OwnB (w8.alloc (.cells #[.int .u8 46] 5)) W6.heap.size v8 Q8 := World.ownsRow.alloc hown8 _
          have hc46 : ∀ i, i < [(46 : UInt8)].length → (w8.alloc (.cells #[.int .u8 46] 5)).cell? ⟨w8.heap.size, 0 + i, none⟩ = some (.int .u8 (([(46 : UInt8)].getD i 0).toNat : Int)) := fun i hi => by
            have : i = 0 := by simp at hi; omega
            subst this
            rw [World.cell?_alloc_at _ _ _ _ rfl]
            rfl
          have hbs : W6.heap.size ≤ (w8.alloc (.cells #[.int .u8 46] 5)).heap.size := by simp; omega
          have hl46 : Q8.length + [(46 : UInt8)].length ≤ 1000000000 := by simp; omega
          go_wp2_with (at_builtin; refine app_own _ rfl (.tmp 98) (.tmp 99) rfl W6.heap.size _ Q8 rfl hnl w8.heap.size 0 1 1 [46] rfl rfl hc46 hl46 hbs ?_)
          intro v9 w9 hown9 hb9
          have hb69 : Below W6.heap.size W6 w9 := (hb68.trans ((Below.refl _ _).alloc hs8 _)).trans hb9
          have hs9 := hb69.size
          clear hnl hc46 hbs hl46 hown8
          obtain ⟨Q9, hQ9⟩ : ∃ Q, Q = Q8 ++ [46] := ⟨_, rfl⟩
          have HQ9 : Hid (Q9 = Q8 ++ [46]) := hQ9
          have hQ9l : Q9.length ≤ 300002 := by rw [hQ9, List.length_append]; simp; omega
          rw [← hQ9] at hown9
          clear hQ9
          have HM2 : Hid (WL.length - ip = (WL.drop ip).length) := by show _ = _; rw [List.length_drop]
          have hc2 : ∀ i, i < (WL.drop ip).length → w9.cell? ⟨Bw, ip + i, none⟩ = some (.int .u8 (((WL.drop ip).getD i 0).toNat : Int)) := fun i hi => by
            rw [List.length_drop] at hi
            have := (hb69.cell (p := ⟨Bw, ip + i, none⟩) hBs).trans (hcl (ip + i) (by omega))
            rw [this, List.getD_eq_getElem?_getD, List.getD_eq_getElem?_getD, List.getElem?_drop]
          have hl2 : Q9.length + (WL.drop ip).length ≤ 1000000000 := by rw [List.length_drop]; omega
          have hipW : (ip : Int) ≤ (WL.length : Int) := by omega
          have hipc2 : (ip : Int) < (capw : Int) := by omega
          have hWc : (WL.length : Int) ≤ (capw : Int) := by omega
          go_wp2_with (at_builtin; refine app_own _ rfl (.tmp 101) (.tmp 107) rfl W6.heap.size _ Q9 rfl hown9 Bw ip (WL.length - ip) _ (WL.drop ip) HM2.out rfl hc2 hl2 hs9 ?_)
          intro v10 w10 hown10 hb10
          have hb610 : Below W6.heap.size W6 w10 := hb69.trans hb10
          have hend : Below w.heap.size w w10 := hbw.trans (hb610.mono hbw.size)
          clear hc2 hl2 hown9 hcl
          obtain ⟨Q10, hQ10⟩ : ∃ Q, Q = Q9 ++ WL.drop ip := ⟨_, rfl⟩
          have HRR : Hid (R = Q10) := by
            show _ = _
            rw [HR.out, hQ10, HQ9.out, HQ8.out]
            unfold shown
            rw [if_pos (by omega), HIP.out, List.append_assoc (sgnL neg ++ WL.take ip) [46]]
            rfl
          have hne10 : Q10 ≠ [] := by
            intro h
            rw [hQ10, HQ9.out] at h
            simp at h
          rw [← hQ10] at hown10
          clear hQ10
          obtain ⟨B8, c8, rfl, h81, h82, h83, h84⟩ := has_own hown10 hne10
          have hrun := str_run (off := 0) (fun i hi => by rw [Nat.zero_add]; exact h84 i hi) c8
          clear hown10 h84 hne10 HIP hd0
          go_wp2
          go_ret
          exact ⟨by rw [HRR.out]; rfl, hend⟩

/-! ### The contract -/
theorem rnd_length (D : List UInt8) (dr : Nat) (hd : Dig D) : (rnd D dr).length ≤ D.length + 1 := by
  unfold rnd
  have ht : (D.take (D.length - dr)).length ≤ D.length := by rw [List.length_take]; omega
  split
  · unfold incL
    have := (incC_spec (hd.take (D.length - dr))).1
    split
    · rw [List.length_cons, this]; omega
    · rw [this]; omega
  · omega
theorem kept_length (D : List UInt8) (ex : Int) (dec : Nat) (hd : Dig D) : (kept D ex dec).length ≤ D.length + 1 := by
  unfold kept
  split
  · exact rnd_length _ _ hd
  · omega
theorem kept_dig {D : List UInt8} (ex : Int) (dec : Nat) (hd : Dig D) : Dig (kept D ex dec) := by
  unfold kept
  split
  · unfold rnd
    split
    · exact incL_dig (hd.take _)
    · exact hd.take _
  · exact hd
def zcount (ex : Int) (dec : Nat) : Nat := (kexp ex dec + (dec : Int)).toNat
theorem kexp_nonneg (ex : Int) (dec : Nat) : kexp ex dec + (dec : Int) = (zcount ex dec : Int) := by
  unfold zcount kexp
  split <;> omega
/-- The text that fixed writes. -/
def fixedL (neg : Bool) (D : List UInt8) (ex : Int) (dec : Nat) : List UInt8 := shown neg (laidOut (kept D ex dec) (zcount ex dec) dec) dec

theorem fixed_any (neg : Bool) (D : List UInt8) (ex : Int) (dec : Nat) (hd : Dig D) (hD : D.length ≤ 65536) (he0 : -65536 ≤ ex) (he1 : ex ≤ 65536) (hdec : dec ≤ 65536) (w : World) :
    Calls Try.prog 22 #[.agg #[.bool neg, .string (str D), .int .i64 ex], .int .i64 (dec : Int)] w fun e w' => e = .returned (.string (str (fixedL neg D ex dec))) ∧ Below w.heap.size w w' :=
  fixed_core neg D ex dec hd hD he0 he1 hdec w (kept D ex dec) (kexp ex dec) ⟨rfl, rfl⟩ (by have := kept_length D ex dec hd; omega) (zcount ex dec) (kexp_nonneg ex dec)
    (by have := kexp_nonneg ex dec; unfold kexp at this; split at this <;> omega) (laidOut (kept D ex dec) (zcount ex dec) dec) rfl (fixedL neg D ex dec) rfl

theorem zzfixed_any (neg : Bool) (D : List UInt8) (ex : Int) (dec : Nat) (hd : Dig D) (hD : D.length ≤ 65536) (he0 : -65536 ≤ ex) (he1 : ex ≤ 65536) (hdec : dec ≤ 65536) (w : World) :
    Calls Try.prog 13 #[.bool neg, .string (str D), .int .i64 ex, .int .i64 (dec : Int)] w fun e w' => e = .returned (.string (str (fixedL neg D ex dec))) ∧ Below w.heap.size w w' := by
  have hI := fun w => fixed_any neg D ex dec hd hD he0 he1 hdec w
  generalize str (fixedL neg D ex dec) = R at hI ⊢
  clear hd
  go_enter Try.func13, Try.ntmps13
  go_wp2_with (go_at_call 22; refine (hI _).mono ?_; rintro e w1 ⟨rfl, hb⟩)
  go_ret
  exact ⟨rfl, hb⟩
end Go.Proofs.Qxb6601144a
