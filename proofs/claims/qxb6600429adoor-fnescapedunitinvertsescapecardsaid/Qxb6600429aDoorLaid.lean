/-
  DERIVED. What the row's listed variables give the walks; the witness's heap; a slice that came in as a row of bytes.
-/
import Derived.Test.Qxb6600429aDoorUnit
import Derived.ProofKit
import Derived.LaidMore
import Derived.OpenShut
import Derived.Stop.Joined
import Derived.Stop.LaidErr
import Derived.ChangeOld
namespace Go.Proofs.Qxb6600429aDoor
open Go.ChangeShapes Go.WideShapes Go.ChangeAt Go.WideMaps Go.WideElems Go.RowKit Go.Joins

theorem own : ownKnob Tryd.prog.godebug = none := by kernel_rfl
theorem laidOut : laidOutB Tryd.prog = true := by kernel_rfl
theorem gErr : Tryd.prog.globalNamed "strconv.ErrSyntax" = some 0 := by kernel_rfl
theorem tErr : (Tryd.prog.globals[0]?).map (·.type) = some 34 := by kernel_rfl

/-- The door's own heap meets the condition. -/
theorem door_met (os : Os) (args : Array Value) : laidMetH Tryd.prog Rows.fnEscapedUnitMatchesHexModelRow.laid ((World.doorLaid Tryd.prog 62 os).forCall (fun _ _ => 0) ⟨#[], args, []⟩).memory :=
  laidMetH_of_parts3 (fuel := 8) (laidMet_of_run' 8 (by kernel_rfl) (by kernel_rfl)) (by kernel_rfl) (by kernel_rfl)

theorem err_of_met {x1 x2 x3 x4 : String × DataW Unit} {W : World} (h : laidMet Tryd.prog [x1, x2, x3, x4, ("strconv.ErrSyntax", Rows.laid_strconv_ErrSyntax)] W) : Err W := by
  obtain ⟨ps, ⟨g0, t0, cs0, f0, p0, q0, hg0, ht0, hv0, hd0, _, _⟩, _, _⟩ := h.tail.tail.tail.tail
  obtain rfl := Option.some.inj (gErr.symm.trans hg0)
  obtain rfl := Option.some.inj (tErr.symm.trans ht0)
  obtain ⟨f1, u, v, hcs, _, _⟩ := iface_of_trod Tryd.underlying34 hd0
  have hc := World.var?_cell hg0 hv0 0
  rw [Array.eq_one_of_toList hcs] at hc
  exact ⟨u, v, by simpa using hc⟩

theorem err_of_laid {W : World} (h : laidMetH Tryd.prog Rows.fnEscapedUnitMatchesHexModelRow.laid W) : Err W := by
  rw [MakeChecks.laidMetH_plain _ _ _ (by kernel_rfl)] at h
  exact err_of_met h

/-- A slice of bytes that came in is a row of bytes. -/
theorem row_of {H : Type} {enc : TypeId × Value → H} {W : World} {a : Option Addr} {len cap : Nat} {d : DataW H} {p : List MemPlace} (h : DataW.Trod enc Tryd.prog W 0 (fun _ => true) true 22 (.slice a len cap) d p) :
    ∃ zs, len = zs.length ∧ Row W (.slice a len cap) zs := by
  obtain ⟨fuel, hf⟩ := h
  rcases open_ints Tryd.underlying22 Tryd.underlying5 (by kernel_rfl) hf with ⟨hcs, _⟩ | ⟨x, l, c, zs, hcs, _, hl, hm, hz, _, hcell, hwz⟩
  · simp [Value.cells] at hcs
    obtain ⟨rfl, rfl, rfl⟩ := hcs
    exact ⟨[], rfl, none, 0, rfl, Nat.le_refl _, fun h => absurd rfl h, fun z hz => by cases hz⟩
  · simp [Value.cells] at hcs
    obtain ⟨rfl, rfl, rfl⟩ := hcs
    have hz' : zs.length = cap := by simpa using hz
    have hlen : (zs.take len).length = len := by simp; omega
    refine ⟨zs.take len, hlen.symm, some x, cap, by rw [hlen], by rw [hlen]; exact hl, fun hne => ?_, fun z hzm => ?_⟩
    · have hpos : 0 < len := by
        rw [← hlen]
        exact List.length_pos_iff.2 hne
      obtain ⟨b, off, spot⟩ := x
      have hspot : spot = none := by simpa [Addr.add] using World.cell?_spot (hcell 0 (by omega))
      subst hspot
      have h0 := hcell 0 (by omega)
      refine ⟨b, off, rfl, ?_, fun i hi => ?_⟩
      · exact Lib.lt_of_cell (w := W) (by simpa [Addr.add] using h0)
      · rw [hlen] at hi
        have := hcell i (by omega)
        rw [add_plain] at this
        rw [this, getD_take_lt _ _ _ _ hi]
    · have := bounds_u8 (hwz z (List.mem_of_mem_take hzm))
      omega
end Go.Proofs.Qxb6600429aDoor
