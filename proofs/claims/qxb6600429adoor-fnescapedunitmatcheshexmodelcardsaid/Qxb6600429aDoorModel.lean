/-
  DERIVED. escapeModel, by hand: the same unit.
-/
import Derived.Test.Qxb6600429aDoorClone
namespace Go.Proofs.Qxb6600429aDoor
open Go.RowKit Go.Joins

theorem X_drop {zs : List Int} {k : Nat} (h6 : 6 ≤ zs.length) (h2 : 2 ≤ k) (hk : k < 6) : ((zs.drop 2).take 4).drop (k - 2) = zs.getD k 0 :: ((zs.drop 2).take 4).drop (k + 1 - 2) := by
  have hl : ((zs.drop 2).take 4).length = 4 := by simp; omega
  rw [List.drop_eq_getElem_cons (by omega)]
  have e1 : k - 2 + 1 = k + 1 - 2 := by omega
  have e2 : ((zs.drop 2).take 4)[k - 2]'(by omega) = zs.getD k 0 := by
    rw [List.getElem_take, List.getElem_drop, List.getD_eq_getElem?_getD, List.getElem?_eq_getElem (by omega)]
    simp [show 2 + (k - 2) = k by omega]
  rw [e1, e2]

theorem step_bd2 {a d : Int} {k : Nat} (hk : k < 6) (h2 : 2 ≤ k) (ha : a < 16 ^ (k - 2)) (hd : d ≤ 15) : a * 16 + d < 16 ^ (k + 1 - 2) ∧ a < 4096 := by
  have : k = 2 ∨ k = 3 ∨ k = 4 ∨ k = 5 := by omega
  rcases this with rfl | rfl | rfl | rfl <;> simp at ha ⊢ <;> omega

set_option maxHeartbeats 2000000 in
theorem model_any (v : Value) (zs : List Int) (hm : zs.length ≤ 9223372036854775807) (w : World) (h : Row w v zs) :
    Calls Tryd.prog 9 #[v] w fun e w' => e = .returned (.int .i32 (unit zs)) ∧ w' = w := by
  obtain ⟨a, cap, rfl, _, hc, hz⟩ := h
  by_cases h6 : zs.length < 6
  · rw [unit_short h6]
    clear hc hz
    go_enter Tryd.func9, Tryd.ntmps9
    go_wp2
    go_ret
    exact ⟨rfl, rfl⟩
  · obtain ⟨b, off, rfl, hlt, hcell⟩ := hc (fun e => h6 (by rw [e]; simp))
    have hu : unit zs = if zs.getD 0 0 = 92 ∧ zs.getD 1 0 = 117 then hexl 0 ((zs.drop 2).take 4) else -1 := by unfold unit; rw [if_neg h6]
    have c0 : w.cell? ⟨b, off, none⟩ = some (.int .u8 (zs.getD 0 0)) := hcell 0 (by omega)
    have c1 : w.cell? ⟨b, off + 1, none⟩ = some (.int .u8 (zs.getD 1 0)) := hcell 1 (by omega)
    have HC : Hid (∀ i, i < zs.length → w.cell? ⟨b, off + i, none⟩ = some (.int .u8 (zs.getD i 0))) := hcell
    have HZ : Hid (∀ i, i < zs.length → 0 ≤ zs.getD i 0 ∧ zs.getD i 0 ≤ 255) := fun i hi => hz _ (by
      rw [List.getD_eq_getElem?_getD, List.getElem?_eq_getElem hi]; exact List.getElem_mem hi)
    have HX : Hid (∀ k, 2 ≤ k → k < 6 → ((zs.drop 2).take 4).drop (k - 2) = zs.getD k 0 :: ((zs.drop 2).take 4).drop (k + 1 - 2)) := fun k h2 hk => X_drop (by omega) h2 hk
    have HL : Hid (((zs.drop 2).take 4).length = 4) := by show _ = _; simp; omega
    rw [hu]
    clear hcell hc hz hu
    generalize zs.getD 0 0 = z0 at c0 ⊢
    generalize zs.getD 1 0 = z1 at c1 ⊢
    generalize (zs.drop 2).take 4 = X at HX HL ⊢
    obtain ⟨n, hn⟩ : ∃ n, n = zs.length := ⟨_, rfl⟩
    rw [← hn] at h6 hm HC HZ ⊢
    clear hn
    by_cases e0 : z0 = 92
    · by_cases e1 : z1 = 117
      · subst e0 e1
        rw [if_pos ⟨rfl, rfl⟩]
        go_enter Tryd.func9, Tryd.ntmps9
        go_wp2
        go_loop [3, 4] (fun v i => ∃ (k : Nat) (a : Int), 2 ≤ k ∧ k ≤ 6 ∧ i = .int .i64 k ∧ v = .int .i32 a ∧ 0 ≤ a ∧ Hid (a < 16 ^ (k - 2) ∧ hexl 0 X = hexl a (X.drop (k - 2)))) (fun _ i => 6 - (intOf i).toNat)
        case atStart => exact ⟨2, 0, by omega, by omega, rfl, rfl, by omega, by simp, rfl⟩
        case round =>
          obtain ⟨k, a, hk2, hk6, rfl, rfl, ha0, hh⟩ := hrel
          obtain ⟨ha, hdec⟩ := hh.out
          clear hh
          by_cases hlt6 : k < 6
          · have hck := HC.out k (by omega)
            have hzk := HZ.out k (by omega)
            have hxk := HX.out k hk2 hlt6
            generalize zs.getD k 0 = c at hck hzk hxk
            have hb := hexd_bd c
            obtain ⟨hs1, hs2⟩ := step_bd2 (d := hexd c) hlt6 hk2 ha hb.2
            rw [hxk] at hdec
            have hkn : (k : Int) < (n : Int) := by omega
            obtain ⟨hzk0, hzk1⟩ := hzk
            obtain ⟨hb0, hb1⟩ := hb
            by_cases hneg : hexd c < 0
            · rw [hexl_no hneg] at hdec
              have HD : Hid (hexl 0 X = -1) := hdec
              clear hdec hs1 hxk ha
              go_wp2_with (go_at_call 14; refine (hexDigitValue_any _ hzk0 hzk1 _).mono ?_; rintro e w' ⟨rfl, rfl⟩)
              go_ret
              exact ⟨ret_int HD.out.symm, rfl⟩
            · rw [hexl_cons (by omega)] at hdec
              have HD : Hid (a * 16 + hexd c < 16 ^ (k + 1 - 2) ∧ hexl 0 X = hexl (a * 16 + hexd c) (X.drop (k + 1 - 2))) := ⟨hs1, hdec⟩
              have hneg' : 0 ≤ hexd c := by omega
              clear hdec hs1 hxk ha hneg
              go_wp2_with (go_at_call 14; refine (hexDigitValue_any _ hzk0 hzk1 _).mono ?_; rintro e w' ⟨rfl, rfl⟩)
              go_round
              case rel => exact ⟨k + 1, a * 16 + hexd c, by omega, by omega, by go_num, rfl, by omega, HD⟩
              case measure => simp [intOf]; omega
          · have hk : k = 6 := by omega
            subst hk
            have hF : X.drop (6 - 2) = [] := List.drop_eq_nil_of_le (by rw [HL.out]; omega)
            rw [hF] at hdec
            have HD : Hid (hexl 0 X = a) := hdec
            clear hdec hF ha
            go_wp2
            go_ret
            exact ⟨ret_int HD.out.symm, rfl⟩
      · have e1' : (z1 != 117) = true := by simpa using e1
        subst e0
        rw [if_neg (fun h => e1 h.2)]
        go_enter Tryd.func9, Tryd.ntmps9
        go_wp2
        all_goals go_ret
        all_goals exact ⟨rfl, rfl⟩
    · have e0' : (z0 != 92) = true := by simpa using e0
      rw [if_neg (fun h => e0 h.1)]
      go_enter Tryd.func9, Tryd.ntmps9
      go_wp2
      all_goals go_ret
      all_goals exact ⟨rfl, rfl⟩
end Go.Proofs.Qxb6600429aDoor
