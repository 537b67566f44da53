/-
  DERIVED. Two laws for append on rows of bytes.
-/
import Derived.Test.Qxb6601144aBts
import Derived.ArgAppend
namespace Go.Proofs.Qxb6601144a
open Go.RowKit Go.Joins

theorem below_setCells {B b : Nat} (hb : B ≤ b) : ∀ (vs : List Value) (o : Nat) (w : World), Below B w (w.setCells b o vs)
  | [], _, _ => Below.refl _ _
  | v :: vs, o, w => ((Below.refl B w).setCell (p := ⟨b, o, none⟩) hb v).trans (below_setCells hb vs (o + 1) (w.setCell ⟨b, o, none⟩ v))

theorem getD_map_bv {l : List UInt8} {j : Nat} {u : Value} (h : (l.map bv)[j]? = some u) : j < l.length ∧ u = .int .u8 ((l.getD j 0).toNat : Int) := by
  have hj : j < l.length := by
    rcases Nat.lt_or_ge j l.length with h' | h'
    · exact h'
    · rw [List.getElem?_eq_none (by simpa using h')] at h; cases h
  refine ⟨hj, ?_⟩
  rw [List.getElem?_map, List.getElem?_eq_getElem hj] at h
  rw [List.getD_eq_getElem?_getD, List.getElem?_eq_getElem hj]
  simp [bv] at h
  exact h.symm
theorem one_bv {l : List UInt8} : ∀ u ∈ l.map bv, u.oneCell' = true := by
  intro u hu
  obtain ⟨c, _, rfl⟩ := List.mem_map.1 hu
  rfl
theorem addr_add (B off j : Nat) : (⟨B, off, none⟩ : Addr).add j = ⟨B, off + j, none⟩ := Addr.add_lit ..

/-- The call's own row v of the bytes l (nil where there are none). -/
def OwnB (w : World) (base : Nat) (v : Value) (l : List UInt8) : Prop := w.ownsRow base 5 1 v l.length (l.map bv)
theorem OwnB.nil (w : World) (base : Nat) : OwnB w base (.slice none 0 0) [] := World.ownsRow_nil _ _ _ _

/-- 'b = append(b, ys...)', b nil or a row of the call's own. -/
theorem app_own {ops : Array Oper} {rest : List Oper} {o : Oper} {a : Act} {Q : Exit → Act → World → Prop} (w : World) (hgd : o.guard = none) (s x : Operand)
    (ho : o.op = .call { callee := .builtin .append, args := #[s, x], argTypes := #[40, 40] }) (base : Nat) (v : Value) (l : List UInt8) (hs : a.eval s = v) (hown : OwnB w base v l)
    (B off m c : Nat) (ys : List UInt8) (hm : m = ys.length) (hx : a.eval x = .slice (some ⟨B, off, none⟩) m c) (hc : ∀ i, i < ys.length → w.cell? ⟨B, off + i, none⟩ = some (.int .u8 ((ys.getD i 0).toNat : Int)))
    (hlen : l.length + ys.length ≤ 1000000000) (hbase : base ≤ w.heap.size)
    (h : ∀ v' w', OwnB w' base v' (l ++ ys) → Below base w w' → wpList Try.prog ops Q rest (a.put o.dst v') w') : wpList Try.prog ops Q (o :: rest) a w := by
  subst hm
  obtain ⟨i0, hi, hz0, hz1, hz2⟩ := info_parts info5
  refine wpList_append_own w hgd s x 40 ho base 5 i0 (.int .u8 0) 1 1 Try.underlying40 hi hz0 hz1 hz2 rfl (by decide) v l.length (l.map bv) hs hown ⟨B, off, none⟩ ys.length c (ys.map bv) hx (by simp) ?_ one_bv (by unfold maxLen; omega) (by omega) hbase ?_
  · intro j u hj
    obtain ⟨hlt, rfl⟩ := getD_map_bv hj
    rw [addr_add, hc j hlt]
  · intro v' w' hown' hg _
    refine h v' w' ?_ ((Below.refl base w).grown hg hbase ?_)
    · unfold OwnB; rw [List.length_append, List.map_append]; exact hown'
    · intro k hk
      rcases hown.2 with ⟨rfl, _⟩ | ⟨g, cap, cur, rfl, hg', _⟩
      · cases hk
      · simp [Value.ownBlock] at hk
        omega

/-- The slice v reads as the bytes l, in a block from base on. -/
def Has (w : World) (base : Nat) (v : Value) (l : List UInt8) : Prop :=
  ∃ B cap, v = .slice (some ⟨B, 0, none⟩) l.length cap ∧ base ≤ B ∧ B < w.heap.size ∧ l.length ≤ cap ∧ ∀ i, i < l.length → w.cell? ⟨B, i, none⟩ = some (.int .u8 ((l.getD i 0).toNat : Int))
theorem Bts.has {w : World} {B cap base : Nat} {l : List UInt8} (h : Bts w B l cap) (hb : base ≤ B) : Has w base (.slice (some ⟨B, 0, none⟩) l.length cap) l :=
  ⟨B, cap, rfl, hb, h.lt, h.le, fun _ hi => h.cell hi⟩
theorem has_own {w : World} {base : Nat} {v : Value} {l : List UInt8} (hown : OwnB w base v l) (hne : l ≠ []) : Has w base v l := by
  rcases hown.2 with ⟨_, h0⟩ | ⟨g, cap, cur, rfl, hg, hh, hn, _, hsz, htk⟩
  · exact absurd (List.length_eq_zero_iff.1 h0) hne
  · refine ⟨g, cap, rfl, hg, lt_of_block hh, hn, fun i hi => ?_⟩
    rw [World.ownsRow.cellAt hown i (by omega), List.getElem?_map, List.getElem?_eq_getElem hi, List.getD_eq_getElem?_getD, List.getElem?_eq_getElem hi]
    rfl

/-- 'append(z, ys...)', z just made by a conversion: there is room, or a new row. -/
theorem app_conv {ops : Array Oper} {rest : List Oper} {o : Oper} {a : Act} {Q : Exit → Act → World → Prop} (w : World) (hgd : o.guard = none) (s x : Operand)
    (ho : o.op = .call { callee := .builtin .append, args := #[s, x], argTypes := #[40, 40] }) (base : Nat) (Z cap : Nat) (l : List UInt8) (hne : l ≠ []) (hs : a.eval s = .slice (some ⟨Z, 0, none⟩) l.length cap) (hbt : Bts w Z l cap) (hZ : base ≤ Z)
    (B off c : Nat) (ys : List UInt8) (hx : a.eval x = .slice (some ⟨B, off, none⟩) ys.length c) (hc : ∀ i, i < ys.length → w.cell? ⟨B, off + i, none⟩ = some (.int .u8 ((ys.getD i 0).toNat : Int)))
    (hlen : l.length + ys.length ≤ 1000000000)
    (h : ∀ v' w', Has w' base v' (l ++ ys) → Below base w w' → wpList Try.prog ops Q rest (a.put o.dst v') w') : wpList Try.prog ops Q (o :: rest) a w := by
  obtain ⟨i0, hi, hz0, hz1, hz2⟩ := info_parts info5
  have hZs := hbt.lt
  refine wpList_append_arg w hgd s x 40 ho 5 i0 (.int .u8 0) 1 1 Try.underlying40 hi hz0 hz1 hz2 rfl (by decide) Z 0 l.length cap (l.map bv) hs (by simp) ?_ ⟨B, off, none⟩ ys.length c (ys.map bv) hx (by simp) ?_ one_bv ?_ (by unfold maxLen; omega) (by omega) ?_ ?_
  · intro j u hj
    obtain ⟨hlt, rfl⟩ := getD_map_bv hj
    rw [Nat.zero_add, hbt.cell hlt]
  · intro j u hj
    obtain ⟨hlt, rfl⟩ := getD_map_bv hj
    rw [addr_add, hc j hlt]
  · intro hr j hj
    have hj' : j < ys.length := by simpa using hj
    rw [Nat.zero_add, Nat.mul_one]
    exact ⟨hbt.spare (by omega), hbt.free (by omega)⟩
  · intro hr
    refine h _ _ ⟨Z, cap, by rw [List.length_append], hZ, ?_, by rw [List.length_append]; exact hr, ?_⟩ (below_setCells hZ _ _ _)
    · exact Nat.lt_of_lt_of_le hZs (below_setCells (Nat.le_refl _) _ _ _ : Below Z _ _).size
    · intro i hi
      rw [Nat.zero_add, Nat.mul_one]
      by_cases hil : i < l.length
      · rw [World.cell?_setCells_out _ _ _ _ _ (fun _ _ => .inl hil), hbt.cell hil]
        congr 3
        rw [List.getD_eq_getElem?_getD, List.getD_eq_getElem?_getD, List.getElem?_append_left hil]
      · have hin := World.cell?_setCells_in Z (ys.map bv) l.length w (fun j hj => hbt.spare (by
          have hj' : j < ys.length := by simpa using hj
          omega)) (i - l.length) (by
          rw [List.length_append] at hi
          simp; omega)
        rw [show l.length + (i - l.length) = i by omega] at hin
        rw [hin]
        rw [List.length_append] at hi
        have hlt : i - l.length < ys.length := by omega
        rw [List.getD_eq_getElem?_getD, List.getElem?_append_right (by omega), List.getElem?_eq_getElem hlt]
        simp [bv]
  · intro hr v' w' hown hg
    have hown' : OwnB w' w.heap.size v' (l ++ ys) := by unfold OwnB; rw [List.length_append, List.map_append]; exact hown
    obtain ⟨B', cap', rfl, h1, h2, h3, h4⟩ := has_own hown' (by simp [hne])
    refine h _ _ ⟨B', cap', rfl, by omega, h2, h3, h4⟩ ((Below.refl base w).grown hg (by omega) (fun k hk => by cases hk))
end Go.Proofs.Qxb6601144a
