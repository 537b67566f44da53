/-
  DERIVED. strconv.ParseUint at base 16, 16 bits; escapedUnit; ZZescapedUnit.
-/
import Derived.Test.Qxb6600429aDoorParse
import Derived.Test.Qxb6600429aDoorClone
import Derived.Test.Qxb6600429aDoorShelf
import Derived.Laws.BytesArg
namespace Go.Proofs.Qxb6600429aDoor
open Go.RowKit Go.Joins

/-- What ErrSyntax holds. -/
def Err (w : World) : Prop := ∃ te pe, w.cell? ⟨0, 0, none⟩ = some (.iface te pe)
theorem Err.later {w w' : World} (h : Err w) (hb : Below w.heap.size w w') : Err w' := by
  obtain ⟨te, pe, hc⟩ := h
  exact ⟨te, pe, (hb.cell (p := ⟨0, 0, none⟩) (Lib.lt_of_cell hc)).trans hc⟩

set_option maxHeartbeats 1000000 in
theorem pub_ok (t : ByteArray) (hsz : t.size = 4) (v : Int) (hv0 : 0 ≤ v) (h : hexl 0 (nums t.data.toList) = v) (w : World) :
    Calls Tryd.prog 15 #[.string t, .int .i64 16, .int .i64 16] w fun e w' => e = .returned (.tuple #[.int .u64 v, .nilIface]) ∧ Below w.heap.size w w' := by
  have hI := parse16 t (by omega) (by omega) w
  rw [h, pres_ok hv0] at hI
  clear h
  go_enter Tryd.func15, Tryd.ntmps15
  go_wp2_with (go_at_call 16; refine hI.mono ?_; rintro e W1 ⟨rfl, hW⟩)
  go_ret2
  exact ⟨rfl, below_bytesWorld _ _ _ _ (Nat.le_refl _)⟩

set_option maxHeartbeats 1000000 in
theorem pub_no (t : ByteArray) (hsz : t.size = 4) (h : hexl 0 (nums t.data.toList) = -1) (w : World) (he : Err w) :
    Calls Tryd.prog 15 #[.string t, .int .i64 16, .int .i64 16] w fun e w' => ∃ p, e = .returned (.tuple #[.int .u64 0, .iface 41 p]) ∧ Below w.heap.size w w' := by
  have hI := parse16 t (by omega) (by omega) w
  rw [h, pres_no] at hI
  clear h
  obtain ⟨te, pe, hev⟩ := he
  have hG : 0 < w.heap.size := Lib.lt_of_cell hev
  go_enter Tryd.func15, Tryd.ntmps15
  go_wp2_with (go_at_call 16; refine hI.mono ?_)
  rintro e W1 ⟨rfl, hW⟩
  have hb1 : Below w.heap.size w W1 := by rw [hW]; exact below_bytesWorld _ _ _ _ (Nat.le_refl _)
  have hv1 : W1.cell? ⟨0, 0, none⟩ = some (.iface te pe) := (hb1.cell (show (⟨0, 0, none⟩ : Addr).block < w.heap.size from hG)).trans hev
  clear hW hI
  go_wp2_with (go_at_call 17; refine (Tryd.strconv_toError_syntax ⟨#[80, 97, 114, 115, 101, 85, 105, 110, 116]⟩ t 16 16 (.iface te pe) _ (by omega) ?_ (.inr ⟨te, pe, rfl⟩)).mono ?_)
  · exact hv1
  rintro e W2 ⟨N, rfl, h1, h2, h3⟩
  go_wp2
  go_ret2
  exact ⟨_, rfl, hb1.trans (h3.mono hb1.size)⟩

theorem nums_str {xs : List Int} (hx : ∀ z ∈ xs, 0 ≤ z ∧ z ≤ 255) : nums (strOfNums xs).data.toList = xs := by
  rw [strOfNums_data]
  unfold nums
  rw [List.map_map]
  have : ∀ z ∈ xs, ((fun c : UInt8 => (c.toNat : Int)) ∘ fun n : Int => UInt8.ofNat n.toNat) z = z := by
    intro z hz
    have := hx z hz
    simp
    omega
  rw [List.map_congr_left this]
  simp

set_option maxHeartbeats 2000000 in
theorem escaped_any (v : Value) (zs : List Int) (hm : zs.length ≤ 9223372036854775807) (w : World) (h : Row w v zs) (he : Err w) :
    Calls Tryd.prog 13 #[v] w fun e w' => e = .returned (.int .i32 (unit zs)) ∧ Below w.heap.size w w' := by
  have hub := unit_bd zs
  obtain ⟨a, cap, rfl, hcp, hc, hz⟩ := h
  by_cases h6 : zs.length < 6
  · rw [unit_short h6]
    clear hc hz hub
    go_enter Tryd.func13, Tryd.ntmps13
    go_wp2
    go_ret
    exact ⟨rfl, Below.refl _ _⟩
  · obtain ⟨b, off, rfl, hlt, hcell⟩ := hc (fun e => h6 (by rw [e]; simp))
    have hu : unit zs = if zs.getD 0 0 = 92 ∧ zs.getD 1 0 = 117 then hexl 0 ((zs.drop 2).take 4) else -1 := by unfold unit; rw [if_neg h6]
    have c0 : w.cell? ⟨b, off, none⟩ = some (.int .u8 (zs.getD 0 0)) := hcell 0 (by omega)
    have c1 : w.cell? ⟨b, off + 1, none⟩ = some (.int .u8 (zs.getD 1 0)) := hcell 1 (by omega)
    have hl : ((zs.drop 2).take 4).length = 4 := by simp; omega
    have hX : ∀ i, i < 4 → w.cell? ⟨b, (off + 2) + i, none⟩ = some (.int .u8 (((zs.drop 2).take 4).getD i 0)) := by
      intro i hi
      have := hcell (2 + i) (by omega)
      rw [← Nat.add_assoc] at this
      rw [this, List.getD_eq_getElem?_getD, List.getD_eq_getElem?_getD, List.getElem?_take_of_lt hi, List.getElem?_drop]
    have hxz : ∀ z ∈ (zs.drop 2).take 4, 0 ≤ z ∧ z ≤ 255 := fun z hzz => hz z (List.mem_of_mem_drop (List.mem_of_mem_take hzz))
    rw [hu] at hub ⊢
    clear hcell hc hz hu
    generalize zs.getD 0 0 = z0 at c0 hub ⊢
    generalize zs.getD 1 0 = z1 at c1 hub ⊢
    generalize (zs.drop 2).take 4 = X at hX hxz hl hub ⊢
    obtain ⟨n, hn⟩ : ∃ n, n = zs.length := ⟨_, rfl⟩
    rw [← hn] at h6 hm hcp ⊢
    clear hn
    by_cases e0 : z0 = 92
    · by_cases e1 : z1 = 117
      · subst e0 e1
        rw [if_pos ⟨rfl, rfl⟩] at hub ⊢
        have hcv := fun cp => run_convert_bytes_arg (P := Tryd.prog) w 22 5 Tryd.underlying22 Tryd.underlying5 b (off + 2) 4 cp X hl hX 9 Tryd.underlying9
        have hns := nums_str hxz
        have hss := strOfNums_size X
        rw [hl] at hss
        generalize strOfNums X = t at hcv hns hss
        obtain ⟨hub1, hub2⟩ := hub
        have h6n : (6 : Int) ≤ (n : Int) := by omega
        have h6c : (6 : Int) ≤ (cap : Int) := by omega
        by_cases hneg : hexl 0 X < 0
        · have hm1 : hexl 0 X = -1 := by omega
          have hP := pub_no t hss (by rw [hns]; exact hm1) w he
          rw [hm1]
          clear hm1 hns hub1 hub2 hneg hX hxz
          go_enter Tryd.func13, Tryd.ntmps13
          go_wp2_with (go_at_call 15; refine hP.mono ?_; rintro e W1 ⟨p, rfl, hW⟩)
          go_ret
          exact ⟨rfl, hW⟩
        · have hP := pub_ok t hss (hexl 0 X) (by omega) (by rw [hns]) w
          generalize hexl 0 X = v at hub1 hub2 hneg hP ⊢
          have hv0 : 0 ≤ v := by omega
          clear hns hX hxz hneg hub1
          go_enter Tryd.func13, Tryd.ntmps13
          go_wp2_with (go_at_call 15; refine hP.mono ?_; rintro e W1 ⟨rfl, hW⟩)
          go_ret
          exact ⟨ret_int (by first | rfl | omega), hW⟩
      · have e1' : (z1 != 117) = true := by simpa using e1
        subst e0
        rw [if_neg (fun h => e1 h.2)]
        clear hX hxz hub
        go_enter Tryd.func13, Tryd.ntmps13
        go_wp2
        all_goals go_ret
        all_goals exact ⟨rfl, Below.refl _ _⟩
    · have e0' : (z0 != 92) = true := by simpa using e0
      rw [if_neg (fun h => e0 h.1)]
      clear hX hxz hub
      go_enter Tryd.func13, Tryd.ntmps13
      go_wp2
      all_goals go_ret
      all_goals exact ⟨rfl, Below.refl _ _⟩

theorem zz_any (v : Value) (zs : List Int) (hm : zs.length ≤ 9223372036854775807) (w : World) (h : Row w v zs) (he : Err w) :
    Calls Tryd.prog 8 #[v] w fun e w' => e = .returned (.int .i32 (unit zs)) ∧ Below w.heap.size w w' := by
  have hI := escaped_any v zs hm w h he
  clear h he
  generalize unit zs = u at hI ⊢
  go_enter Tryd.func8, Tryd.ntmps8
  go_wp2_with (go_at_call 13; refine hI.mono ?_; rintro e W1 ⟨rfl, hW⟩)
  go_ret
  exact ⟨rfl, hW⟩
end Go.Proofs.Qxb6600429aDoor
