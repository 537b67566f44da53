/-
  DERIVED. internal/strconv.ParseUint at base 16, 16 bits, on a text of one to four bytes: the loop over the bytes.
-/
import Derived.Test.Qxb6600429aDoorRows
import Derived.Test.Qxb6600429aDoorPlain
import Derived.Lib.Strings
import Derived.Lib.Walk
import Derived.Lib.ConvBytes
import Derived.Lib.Hide
import Derived.Laws.Strings3
import Derived.Laws.Closers25
import Derived.Laws.Closers25b
import Derived.WalkKit
import Derived.BigCall
import Derived.BigGuard
namespace Go.Proofs.Qxb6600429aDoor
open Go.RowKit

/-- A text's bytes as numbers. -/
def nums (bs : List UInt8) : List Int := bs.map fun c => (c.toNat : Int)

/-- What ParseUint hands back, by the number read. -/
def pres (v : Int) : Value := if v < 0 then .tuple #[.int .u64 0, .iface 38 (.int .i64 2)] else .tuple #[.int .u64 v, .nilIface]
theorem pres_no : pres (-1) = .tuple #[.int .u64 0, .iface 38 (.int .i64 2)] := rfl
theorem pres_ok {v : Int} (h : 0 ≤ v) : pres v = .tuple #[.int .u64 v, .nilIface] := by unfold pres; rw [if_neg (by omega)]

theorem lower_any (c : Int) (w : World) :
    Calls Tryd.prog 18 #[.int .u8 c] w fun e w' => e = .returned (.int .u8 (bits .or .u8 c 32)) ∧ w' = w := by
  go_enter Tryd.func18, Tryd.ntmps18
  go_wp2
  go_ret
  exact ⟨rfl, rfl⟩

theorem low_af (c : UInt8) (h : 97 ≤ c.toNat ∧ c.toNat ≤ 102) : bits .or .u8 (c.toNat : Int) 32 = (c.toNat : Int) := (low_all ⟨c.toNat, c.toNat_lt⟩).1 h
theorem low_AF (c : UInt8) (h : 65 ≤ c.toNat ∧ c.toNat ≤ 70) : bits .or .u8 (c.toNat : Int) 32 = (c.toNat : Int) + 32 := (low_all ⟨c.toNat, c.toNat_lt⟩).2.1 h
theorem low_no (c : UInt8) (h1 : ¬ (97 ≤ c.toNat ∧ c.toNat ≤ 102)) (h2 : ¬ (65 ≤ c.toNat ∧ c.toNat ≤ 70)) : bits .or .u8 (c.toNat : Int) 32 < 97 ∨ 102 < bits .or .u8 (c.toNat : Int) 32 := (low_all ⟨c.toNat, c.toNat_lt⟩).2.2 h1 h2

/-- One digit more keeps the bound. -/
theorem step_bd {a d : Int} {k n : Nat} (hk : k < n) (hn : n ≤ 4) (ha : a < 16 ^ k) (hd : d ≤ 15) : a * 16 + d < 16 ^ (k + 1) ∧ a * 16 + d ≤ 65535 := by
  have : k = 0 ∨ k = 1 ∨ k = 2 ∨ k = 3 := by omega
  rcases this with rfl | rfl | rfl | rfl <;> simp at ha ⊢ <;> omega

set_option maxHeartbeats 4000000 in
set_option maxRecDepth 100000 in
theorem parse16 (t : ByteArray) (hne : t.size ≠ 0) (hmax : t.size ≤ 4) (w : World) :
    Calls Tryd.prog 16 #[.string t, .int .i64 16, .int .i64 16] w fun e w' => e = .returned (pres (hexl 0 (nums t.data.toList))) ∧ w' = Lib.bytesWorld w 5 t := by
  have hemp : t.toList.isEmpty = false := by
    rw [← decide_eq_emptyBytes]
    exact decide_eq_false (fun h => hne (by rw [h]; rfl))
  have hcv := Lib.run_convert_string_bytes (P := Tryd.prog) w 9 22 5 t (u := .string) Tryd.underlying9 Tryd.underlying22 Tryd.underlying5
  have hB : ∀ j, j < t.size → (Lib.bytesWorld w 5 t).cell? ⟨w.heap.size, j, none⟩ = some (.int .u8 (t.data.toList.getD j 0).toNat) := fun j hj => Lib.bytesWorld_cell w 5 t j hj
  obtain ⟨W1, hW1⟩ : ∃ W1, W1 = Lib.bytesWorld w 5 t := ⟨_, rfl⟩
  rw [← hW1] at hcv hB ⊢
  clear hW1
  obtain ⟨bs, hL⟩ : ∃ bs, bs = t.data.toList := ⟨_, rfl⟩
  have hLn : bs.length = t.size := by rw [hL, Lib.size_eq]
  rw [← hL] at hB ⊢
  clear hL
  have hmv : IntKind.u64.wrap (IntKind.u64.wrap 65536 - 1) = 65535 := by
    rw [IntKind.wrap_u64, IntKind.wrap_u64]
    decide
  go_enter Tryd.func16, Tryd.ntmps16
  go_wp2
  go_loop [12, 13, 101] (fun vu vn vi => ∃ (k : Nat) (a : Int), vu = .bool false ∧ vn = .int .u64 a ∧ vi = .int .i64 k ∧ k ≤ t.size ∧ 0 ≤ a ∧ Hid (a < 16 ^ k ∧ hexl 0 (nums bs) = hexl a (nums (bs.drop k))))
    (fun _ _ vi => t.size - (intOf vi).toNat)
  case atStart => exact ⟨0, 0, rfl, rfl, rfl, by omega, by omega, by simp, rfl⟩
  case round =>
    obtain ⟨k, a, rfl, rfl, rfl, hk, a0, hh⟩ := hrel
    obtain ⟨ha, hdec⟩ := hh.out
    clear hh
    by_cases hkn : k < t.size
    · have hc := hB k hkn
      have hdrop : bs.drop k = bs[k]'(by omega) :: bs.drop (k + 1) := List.drop_eq_getElem_cons (by omega)
      have hget : bs.getD k 0 = bs[k]'(by omega) := by simp [List.getD, List.getElem?_eq_getElem (show k < bs.length by omega)]
      rw [hdrop] at hdec
      rw [hget] at hc
      generalize bs[k]'(by omega) = c at hc hdec
      have hc256 : c.toNat < 256 := c.toNat_lt
      clear hB hdrop hget
      have hcons : nums (c :: bs.drop (k + 1)) = (c.toNat : Int) :: nums (bs.drop (k + 1)) := rfl
      rw [hcons] at hdec
      clear hcons
      have ha2 : a < 4096 := by
        have : k = 0 ∨ k = 1 ∨ k = 2 ∨ k = 3 := by omega
        rcases this with rfl | rfl | rfl | rfl <;> simp at ha <;> omega
      by_cases h09 : 48 ≤ c.toNat ∧ c.toNat ≤ 57
      · obtain ⟨hd0, hd1⟩ := h09
        have hx : hexd (c.toNat : Int) = (c.toNat : Int) - 48 := hexd_09 (by omega)
        rw [hexl_cons (by omega), hx] at hdec
        have hb := step_bd (a := a) (d := (c.toNat : Int) - 48) hkn hmax ha (by omega)
        have HN : Hid (a * 16 + ((c.toNat : Int) - 48) < 16 ^ (k + 1) ∧ hexl 0 (nums bs) = hexl (a * 16 + ((c.toNat : Int) - 48)) (nums (bs.drop (k + 1)))) := Lib.hid ⟨hb.1, hdec⟩
        have hb2 := hb.2
        clear hb hdec hx ha
        go_wp2
        refine ⟨⟨k + 1, a * 16 + ((c.toNat : Int) - 48), rfl, (by first | rfl | (congr 1; omega)), (by first | rfl | (congr 1; omega)), by omega, by omega, HN⟩, by simp [intOf]; omega⟩
      · by_cases haf : 97 ≤ c.toNat ∧ c.toNat ≤ 102
        · have hx : hexd (c.toNat : Int) = (c.toNat : Int) - 87 := hexd_af (by omega)
          rw [hexl_cons (by omega), hx] at hdec
          have hb := step_bd (a := a) (d := (c.toNat : Int) - 87) hkn hmax ha (by omega)
          have HN : Hid (a * 16 + ((c.toNat : Int) - 87) < 16 ^ (k + 1) ∧ hexl 0 (nums bs) = hexl (a * 16 + ((c.toNat : Int) - 87)) (nums (bs.drop (k + 1)))) := Lib.hid ⟨hb.1, hdec⟩
          have hb2 := hb.2
          have hlo := low_af c haf
          obtain ⟨hd0, hd1⟩ := haf
          clear hb hdec hx ha h09
          go_wp2_with (go_at_call 18; refine (lower_any _ _).mono ?_; rintro e w' ⟨rfl, rfl⟩)
          refine ⟨⟨k + 1, a * 16 + ((c.toNat : Int) - 87), rfl, (by first | rfl | (congr 1; omega)), (by first | rfl | (congr 1; omega)), by omega, by omega, HN⟩, by simp [intOf]; omega⟩
        · by_cases hAF : 65 ≤ c.toNat ∧ c.toNat ≤ 70
          · have hx : hexd (c.toNat : Int) = (c.toNat : Int) - 55 := hexd_AF (by omega)
            rw [hexl_cons (by omega), hx] at hdec
            have hb := step_bd (a := a) (d := (c.toNat : Int) - 55) hkn hmax ha (by omega)
            have HN : Hid (a * 16 + ((c.toNat : Int) - 55) < 16 ^ (k + 1) ∧ hexl 0 (nums bs) = hexl (a * 16 + ((c.toNat : Int) - 55)) (nums (bs.drop (k + 1)))) := Lib.hid ⟨hb.1, hdec⟩
            have hb2 := hb.2
            have hlo := low_AF c hAF
            obtain ⟨hd0, hd1⟩ := hAF
            clear hb hdec hx ha h09 haf
            go_wp2_with (go_at_call 18; refine (lower_any _ _).mono ?_; rintro e w' ⟨rfl, rfl⟩)
            refine ⟨⟨k + 1, a * 16 + ((c.toNat : Int) - 55), rfl, (by first | rfl | (congr 1; omega)), (by first | rfl | (congr 1; omega)), by omega, by omega, HN⟩, by simp [intOf]; omega⟩
          · have hx : hexd (c.toNat : Int) = -1 := hexd_no (by omega) (by omega) (by omega)
            rw [hexl_no (by omega)] at hdec
            have hno := low_no c haf hAF
            have hv0 := bits_lo_u8 .or (c.toNat : Int) 32
            have hv1 := bits_hi_u8 .or (c.toNat : Int) 32
            obtain ⟨lo, hlo⟩ : ∃ lo, bits .or .u8 (c.toNat : Int) 32 = lo := ⟨_, rfl⟩
            rw [hlo] at hno hv0 hv1
            have HD : Hid (hexl 0 (nums bs) = -1) := hdec
            clear hx ha haf hAF hdec
            rcases hno with hno | hno
            all_goals
              go_wp2_with (go_at_call 18; refine (lower_any _ _).mono ?_; rintro e w' ⟨rfl, rfl⟩)
              all_goals go_ret2
              all_goals exact ⟨by rw [HD.out]; rfl, rfl⟩
    · have hkk : k = t.size := by omega
      have hF : bs.drop k = [] := List.drop_eq_nil_of_le (by omega)
      rw [hF] at hdec
      have hF2 : hexl a (nums []) = a := rfl
      rw [hF2] at hdec
      have HD : Hid (hexl 0 (nums bs) = a) := hdec
      clear hdec hF hF2 ha
      go_wp2
      go_ret2
      exact ⟨by rw [HD.out, pres_ok a0]; rfl, rfl⟩
end Go.Proofs.Qxb6600429aDoor
