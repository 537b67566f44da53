/-
  DERIVED. The walk of FnFixedRoundsToNearestTiesToEven, its callees and its strings taken as given.
-/
import Derived.Test.Qxb6601144aRound
import Derived.Deep.DeepCutAuto
import Derived.Deep.CutBlock
namespace Go.Proofs.Qxb6601144a
open Go.RowKit Go.Joins

/-- What is known behind the first comparison. -/
def Tail (V Xs Zk : ByteArray) (c1 : Int) : Prop :=
  (V.toList.isEmpty = true ∧ (c1 = -1 ∨ c1 = 0)) ∨
  (V.toList.isEmpty = false ∧ ∃ d : UInt8, 48 ≤ d.toNat ∧ d.toNat ≤ 57 ∧ (∃ h : V.size - 1 < V.size, V[V.size - 1] = d) ∧
    ((c1 = 0 ∧ (((d.toNat : Int) - 48) % 2 == 0) = true) ∨
     (c1 = -1 ∧ ∃ (Vd Ls : ByteArray) (c2 : Int), Vd.size ≤ 300000 ∧
        (∀ w, Calls Try.prog 19 #[.string V] w fun e w' => e = .returned (.string Vd) ∧ Below w.heap.size w w') ∧
        (∀ w, Calls Try.prog 16 #[.string (Vd ++ ⟨#[53]⟩ ++ Zk)] w fun e w' => e = .returned (.string Ls) ∧ w = w') ∧
        (∀ w, Calls Try.prog 18 #[.string Xs, .string Ls] w fun e w' => e = .returned (.int .i64 c2) ∧ Below w.heap.size w w') ∧
        (c2 = 1 ∨ (c2 = 0 ∧ (((d.toNat : Int) - 48) % 2 == 0) = true)))))

theorem size5 (V : ByteArray) : (V ++ ⟨#[53]⟩).size = V.size + 1 := by
  rw [Lib.size_eq, data_append, List.length_append, ← Lib.size_eq V]
  rfl

set_option maxHeartbeats 4000000 in
set_option maxRecDepth 10000 in
theorem walkR_in (neg : Bool) (S G I F V Zx Xs Zk Hs : ByteArray) (ex : Int) (dec sc i0 ip e : Nat) (c1 : Int) (w : World)
    (hS : S.size ≤ 65536) (he0 : -65536 ≤ ex) (he1 : ex ≤ 65536) (hdec : dec ≤ 65536) (hsc : sc ≤ 65536) (hi0 : i0 ≤ e) (he : e ≤ 300000)
    (HSC : Hid ((sc : Int) = max (dec : Int) (-ex)))
    (HIP : Hid (e = i0 + ip ∧ 0 < ip))
    (HN : Hid (if neg then i0 = 1 ∧ ∃ h : 0 < G.size, ((G[0].toNat : Int) != 45) = false else i0 = 0))
    (HG : Hid (G.size = e + (if 0 < dec then dec + 1 else 0)))
    (HGd : Hid (∀ m (h : m < G.size), i0 ≤ m → m < e → isD G[m] = true))
    (HGp : Hid (0 < dec → ∃ h : e < G.size, G[e].toNat = 46))
    (HGI : Hid (G.extract i0 e = I))
    (HGF : Hid (0 < dec → G.extract (e + 1) G.size = F))
    (HF0 : Hid (dec = 0 → F = ⟨#[]⟩))
    (hIs : I.size = ip) (hip : ip ≤ 300000) (hFs : F.size = dec)
    (HI : Hid (1 < ip → ∃ h : 0 < I.size, ((I[0].toNat : Int) == 48) = false))
    (hIE : I.toList.isEmpty = false)
    (hV : V.size ≤ 300000) (hZx : Zx.size ≤ 200000) (hZk : Zk.size ≤ 200000)
    (hB : ∀ w, Calls Try.prog 11 #[.bool neg, .string S, .int .i64 ex, .int .i64 (dec : Int)] w fun e w' => e = .returned (.bool true) ∧ w = w')
    (hOK : ∀ w, Calls Try.prog 12 #[.bool neg, .string S, .int .i64 ex] w fun e w' => e = .returned (.bool true) ∧ w = w')
    (hFx : ∀ w, Calls Try.prog 13 #[.bool neg, .string S, .int .i64 ex, .int .i64 (dec : Int)] w fun e w' => e = .returned (.string G) ∧ Below w.heap.size w w')
    (hAD : ∀ w, Calls Try.prog 15 #[.string F] w fun e w' => e = .returned (.bool true) ∧ w = w')
    (hSt1 : ∀ w, Calls Try.prog 16 #[.string (I ++ F)] w fun e w' => e = .returned (.string V) ∧ w = w')
    (hZ1 : ∀ w, Calls Try.prog 17 #[.int .i64 (ex + ((sc : Int) + 1))] w fun e w' => e = .returned (.string Zx) ∧ Below w.heap.size w w')
    (hSt2 : ∀ w, Calls Try.prog 16 #[.string (S ++ Zx)] w fun e w' => e = .returned (.string Xs) ∧ w = w')
    (hZ2 : ∀ w, Calls Try.prog 17 #[.int .i64 ((sc : Int) + 1 - (dec : Int) - 1)] w fun e w' => e = .returned (.string Zk) ∧ Below w.heap.size w w')
    (hSt3 : ∀ w, Calls Try.prog 16 #[.string (V ++ ⟨#[53]⟩ ++ Zk)] w fun e w' => e = .returned (.string Hs) ∧ w = w')
    (hC1 : ∀ w, Calls Try.prog 18 #[.string Xs, .string Hs] w fun e w' => e = .returned (.int .i64 c1) ∧ Below w.heap.size w w')
    (HT : Hid (Tail V Xs Zk c1)) :
    Calls Try.prog 5 #[.bool neg, .string S, .int .i64 ex, .int .i64 (dec : Int)] w fun e w' => e = .returned (.bool true) ∧ Below w.heap.size w w' := by
  go_enter Try.func5, Try.ntmps5
  go_upto_region 12 with (first | (go_at_call 11; refine (hB _).mono ?_; rintro e w' ⟨rfl, rfl⟩) | (go_at_call 12; refine (hOK _).mono ?_; rintro e w' ⟨rfl, rfl⟩) | (go_at_call 13; refine (hFx _).mono ?_; rintro e w1 ⟨rfl, hb1⟩))
  clear hB hOK hFx
  iterate 8 go_step
  go_cut [10] (fun i wx => i = .int .i64 (i0 : Int) ∧ w1 = wx)
  case first =>
    have hn := HN.out
    clear hAD hSt1 hZ1 hSt2 hZ2 hSt3 hC1
    cases neg
    · rw [if_neg (by simp)] at hn
      subst hn
      go_wp2
      go_meet
      case rel => exact ⟨rfl, rfl⟩
    · rw [if_pos rfl] at hn
      obtain ⟨rfl, hg0, b1⟩ := hn
      have hg0' : ((G.size : Int) == 0) = false := beq_false_of_ne (by omega)
      go_wp2
      go_meet
      case rel => exact ⟨rfl, rfl⟩
  case rest =>
    obtain ⟨rfl, rfl⟩ := hcut
    go_upto_region 17 with fail
    iterate 11 go_step
    go_cut [11] (fun j wx => j = .int .i64 (e : Int) ∧ w1 = wx)
    case first =>
      clear hAD hSt1 hZ1 hSt2 hZ2 hSt3 hC1
      have hG300 : G.size ≤ 400000 := by have := HG.out; split at this <;> omega
      go_wp2
      go_loop [11] (fun i => ∃ j : Nat, i0 ≤ j ∧ j ≤ e ∧ i = .int .i64 (j : Int)) (fun i => e - (intOf i).toNat)
      case atStart => exact ⟨i0, Nat.le_refl _, hi0, rfl⟩
      case round =>
        obtain ⟨j, hj0, hj1, rfl⟩ := hrel
        by_cases hlt : j < e
        · have hjG : j < G.size := by have := HG.out; omega
          have hjI : (j : Int) < (G.size : Int) := by omega
          have hDg := fun w => isDigit_any G[j] w
          rw [HGd.out j hjG hj0 hlt] at hDg
          go_wp2_with (go_at_call 14; refine (hDg _).mono ?_; rintro e w' ⟨rfl, rfl⟩)
          go_round
          case rel => exact ⟨j + 1, by omega, by omega, by go_num⟩
          case measure => simp [intOf]; omega
        · have hje : j = e := by omega
          subst hje
          by_cases hd : 0 < dec
          · obtain ⟨hjG, h46⟩ := HGp.out hd
            have hjI : (j : Int) < (G.size : Int) := by omega
            have hDg := fun w => isDigit_any G[j] w
            rw [isD_no.2 (by omega)] at hDg
            clear h46
            go_wp2_with (go_at_call 14; refine (hDg _).mono ?_; rintro e w' ⟨rfl, rfl⟩)
            go_meet
            case rel => exact ⟨rfl, rfl⟩
          · have hjG : G.size = j := by have := HG.out; rw [if_neg hd] at this; exact this
            have hjI : (G.size : Int) ≤ (j : Int) := by omega
            go_wp2
            go_meet
            case rel => exact ⟨rfl, rfl⟩
    case rest =>
      obtain ⟨rfl, rfl⟩ := hcut
      have hG300 : G.size ≤ 400000 := by have := HG.out; split at this <;> omega
      have hi0I : (i0 : Int) ≤ (e : Int) := by omega
      have heG : (e : Int) ≤ (G.size : Int) := by have := HG.out; omega
      have hgi := HGI.out
      go_upto_region 20 with fail
      iterate 20 (first | go_values | go_skip | go_guarded | go_step | go_upon)
      clear hgi
      go_cut [12] (fun v wx => v = .string I ∧ w1 = wx)
      case first =>
        clear hAD hSt1 hZ1 hSt2 hZ2 hSt3 hC1 HT HGd HGp HGF HF0
        by_cases h1 : 1 < ip
        · obtain ⟨hI0, b1⟩ := HI.out h1
          have h1I : 1 < (ip : Int) := by omega
          go_wp2
          go_meet
          case rel => exact ⟨rfl, rfl⟩
        · have h1I : (ip : Int) ≤ 1 := by omega
          go_wp2
          go_meet
          case rel => exact ⟨rfl, rfl⟩
      case rest =>
        obtain ⟨rfl, rfl⟩ := hcut
        go_upto_region 23 with fail
        iterate 8 go_step
        go_cut [13] (fun v wx => v = .string F ∧ w1 = wx)
        case first =>
          clear hSt1 hZ1 hSt2 hZ2 hSt3 hC1 HT HGd HI
          by_cases hd : 0 < dec
          · obtain ⟨hjG, h46⟩ := HGp.out hd
            have b1 : ((G[e].toNat : Int) != 46) = false := by rw [h46]; rfl
            have hgf := HGF.out hd
            have hdI : 0 < (dec : Int) := by omega
            have heI : (e : Int) < (G.size : Int) := by omega
            have heI1 : (e : Int) + 1 ≤ (G.size : Int) := by omega
            clear h46
            go_wp2_with (go_at_call 15; refine (hAD _).mono ?_; rintro e w' ⟨rfl, rfl⟩)
            go_meet
            case rel => exact ⟨rfl, rfl⟩
          · have hjG : G.size = e := by have := HG.out; rw [if_neg hd] at this; exact this
            have hdI : (dec : Int) ≤ 0 := by omega
            have hF := HF0.out (by omega)
            go_wp2
            go_meet
            case rel => exact ⟨by rw [hF], rfl⟩
        case rest =>
          obtain ⟨rfl, rfl⟩ := hcut
          clear HGd HI HG HGp HGI HGF HF0 HN HIP hAD heG hi0I hG300
          go_upto_region 33 with (go_at_call 16; refine (hSt1 _).mono ?_; rintro e w' ⟨rfl, rfl⟩)
          iterate 11 go_step
          clear hSt1 hIE hIs hFs
          go_cut [15] (fun v wx => v = .int .i64 (sc : Int) ∧ w1 = wx)
          case first =>
            clear hZ1 hSt2 hZ2 hSt3 hC1 HT
            have hmx := HSC.out
            by_cases hm : (dec : Int) < - ex
            · have hE : - ex = (sc : Int) := by omega
              clear hmx
              go_wp2
              go_meet
              case rel => exact ⟨rfl, rfl⟩
            · have hE : sc = dec := by omega
              subst hE
              have hm' : - ex ≤ (sc : Int) := by omega
              clear hmx
              go_wp2
              go_meet
              case rel => exact ⟨rfl, rfl⟩
          case rest =>
            obtain ⟨rfl, rfl⟩ := hcut
            clear HSC
            have hV5 := size5 V
            rcases HT.out with ⟨hE, hc⟩ | ⟨hE, d, hd0, hd1, ⟨hVl, hVd⟩, hc⟩
            · go_wp2_with (first | (go_at_call 17; refine (hZ1 _).mono ?_))
              rintro e w2 ⟨rfl, hb2⟩
              clear hZ1
              go_wp2_with (first | (go_at_call 16; refine (hSt2 _).mono ?_; rintro e w' ⟨rfl, rfl⟩) | (go_at_call 17; refine (hZ2 _).mono ?_))
              rintro e w3 ⟨rfl, hb3⟩
              clear hSt2 hZ2
              have hend3 := (hb1.trans (hb2.mono hb1.size)).trans (hb3.mono (Nat.le_trans hb1.size hb2.size))
              clear hb1 hb2 hb3
              go_wp2_with (first | (go_at_call 16; refine (hSt3 _).mono ?_; rintro e w' ⟨rfl, rfl⟩) | (go_at_call 18; refine (hC1 _).mono ?_))
              rintro e w4 ⟨rfl, hb4⟩
              have hend4 := hend3.trans (hb4.mono hend3.size)
              clear hSt3 hC1 hb4 hend3
              rcases hc with rfl | rfl
              · go_wp2
                go_ret
                exact ⟨rfl, hend4⟩
              · go_wp2
                go_ret
                exact ⟨rfl, hend4⟩
            · have hVi : (V.size : Int) - 1 = ((V.size - 1 : Nat) : Int) := by omega
              go_wp2_with (first | (go_at_call 17; refine (hZ1 _).mono ?_))
              rintro e w2 ⟨rfl, hb2⟩
              clear hZ1
              go_wp2_with (first | (go_at_call 16; refine (hSt2 _).mono ?_; rintro e w' ⟨rfl, rfl⟩) | (go_at_call 17; refine (hZ2 _).mono ?_))
              rintro e w3 ⟨rfl, hb3⟩
              clear hSt2
              have hend3 := (hb1.trans (hb2.mono hb1.size)).trans (hb3.mono (Nat.le_trans hb1.size hb2.size))
              clear hb1 hb2 hb3
              go_wp2_with (first | (go_at_call 16; refine (hSt3 _).mono ?_; rintro e w' ⟨rfl, rfl⟩) | (go_at_call 18; refine (hC1 _).mono ?_))
              rintro e w4 ⟨rfl, hb4⟩
              have hend4 := hend3.trans (hb4.mono hend3.size)
              clear hSt3 hC1 hb4 hend3
              rcases hc with ⟨rfl, hev⟩ | ⟨rfl, Vd, Ls, c2, hVd, hDe, hSt4, hC2, hc⟩
              · have HEV : Hid ((((d.toNat : Int) - 48) % 2 == 0) = true) := hev
                clear hev
                go_wp2
                go_ret
                exact ⟨ret_bool HEV.out, hend4⟩
              · have hd5 := size5 Vd
                go_wp2_with (go_at_call 19; refine (hDe _).mono ?_)
                rintro e w5 ⟨rfl, hb5⟩
                clear hDe
                go_wp2_with (go_at_call 17; refine (hZ2 _).mono ?_)
                rintro e w6 ⟨rfl, hb6⟩
                clear hZ2
                have hend6 := (hend4.trans (hb5.mono hend4.size)).trans (hb6.mono (Nat.le_trans hend4.size hb5.size))
                clear hend4 hb5 hb6
                go_wp2_with (first | (go_at_call 16; refine (hSt4 _).mono ?_; rintro e w' ⟨rfl, rfl⟩) | (go_at_call 18; refine (hC2 _).mono ?_))
                rintro e w7 ⟨rfl, hb7⟩
                have hend7 := hend6.trans (hb7.mono hend6.size)
                clear hSt4 hC2 hb7 hend6
                rcases hc with rfl | ⟨rfl, hev⟩
                · go_wp2
                  go_ret
                  exact ⟨rfl, hend7⟩
                · have HEV : Hid ((((d.toNat : Int) - 48) % 2 == 0) = true) := hev
                  clear hev
                  go_wp2
                  go_ret
                  exact ⟨ret_bool HEV.out, hend7⟩
end Go.Proofs.Qxb6601144a
