import Derived.Test.Qxb6629082aWh
import Derived.ArgAppend
namespace Go.Proofs.Qxb6629082a
open Go.RowKit
set_option linter.unusedVariables false

/-- make([]Field, 0, n + 1). -/
theorem run_make40c (n : Nat) (h : n ≤ 65536) (w : World) : (Instr.makeSlice 27 (.int .i64 0) (.int .i64 ((n : Int) + 1))).run Try.prog w =
    .ok (.slice (some ⟨w.heap.size, 0, none⟩) 0 (n + 1)) (w.alloc (.cells (madeCells #[.slice none 0 0, .slice none 0 0] ((n + 1) * 2)) 40)) := by
  obtain ⟨i, hi, hzz⟩ := Option.map_eq_some_iff.1 Try.info40
  simp only [Prod.mk.injEq] at hzz
  obtain ⟨hz, hs, hb⟩ := hzz
  have hr := run_make (P := Try.prog) w 27 40 i _ Try.underlying27 hi hz .i64 .i64 0 ((n : Int) + 1) (by omega) (by omega) (by rw [hb]; omega) (by omega)
  rw [hs, show ((n : Int) + 1).toNat = n + 1 by omega] at hr
  simpa [Value.cells] using hr

/-- append(grown, Field{..}) where there is room. -/
theorem run_app40 (W : World) (ty : TypeId) (g k cap c0 : Nat) (f : Nat → Value) (a0 : Option Addr) (l0 p0 : Nat) (a1 : Option Addr) (l1 p1 : Nat) (hr : W.rowIs g 40 (cap * 2) f) (hk : k + 1 ≤ cap)
    (h0 : W.cell? ⟨c0, 0, none⟩ = some (.slice a0 l0 p0)) (h1 : W.cell? ⟨c0, 1, none⟩ = some (.slice a1 l1 p1)) :
    (Builtin.append_ #[27, 27] ty #[.slice (some ⟨g, 0, none⟩) k cap, .slice (some ⟨c0, 0, none⟩) 1 1]).run Try.prog W =
      .ok (.slice (some ⟨g, 0, none⟩) (k + 1) cap) ((W.setCell ⟨g, k * 2, none⟩ (.slice a0 l0 p0)).setCell ⟨g, k * 2 + 1, none⟩ (.slice a1 l1 p1)) := by
  obtain ⟨i, hi, hzz⟩ := Option.map_eq_some_iff.1 Try.info40
  simp only [Prod.mk.injEq] at hzz
  obtain ⟨hz, hs, hb⟩ := hzz
  have := run_append_room_cells (P := Try.prog) W 27 ty 40 i Try.underlying27 hi g 0 k cap ⟨c0, 0, none⟩ 1 1 [.slice a0 l0 p0, .slice a1 l1 p1] (by simp [hs]) (fun j u hj => by
      match j, hj with
      | 0, hj => simp at hj; subst hj; simpa [Addr.add] using h0
      | 1, hj => simp at hj; subst hj; simpa [Addr.add] using h1) (fun u hu => by simp at hu; rcases hu with rfl | rfl <;> rfl) hk (fun j hj => by
      simp at hj
      rw [hs, Nat.zero_add, hr.cell (by omega)]; rfl) (fun j hj => by
      rw [hs, Nat.zero_add]; exact hr.frozen _)
  rw [this, hs, Nat.zero_add]
  rfl

/-- What the row holds behind one append. -/
theorem row_app {W : World} {g n k : Nat} {f : Nat → Value} (hr : W.rowIs g 40 (n * 2) f) (gs : List Fld) (x : Fld) (hx : gs.getD k Fld.no = x)
    (h : ∀ j, j < k → f (j * 2) = .slice (gs.getD j Fld.no).na (gs.getD j Fld.no).nm.length (gs.getD j Fld.no).nc ∧ f (j * 2 + 1) = .slice (gs.getD j Fld.no).va (gs.getD j Fld.no).vb.length (gs.getD j Fld.no).vc) :
    ∃ f2, ((W.setCell ⟨g, k * 2, none⟩ (.slice x.na x.nm.length x.nc)).setCell ⟨g, k * 2 + 1, none⟩ (.slice x.va x.vb.length x.vc)).rowIs g 40 (n * 2) f2 ∧
      ∀ j, j < k + 1 → f2 (j * 2) = .slice (gs.getD j Fld.no).na (gs.getD j Fld.no).nm.length (gs.getD j Fld.no).nc ∧ f2 (j * 2 + 1) = .slice (gs.getD j Fld.no).va (gs.getD j Fld.no).vb.length (gs.getD j Fld.no).vc := by
  refine ⟨_, (hr.set (k * 2) (.slice x.na x.nm.length x.nc)).set (k * 2 + 1) (.slice x.va x.vb.length x.vc), fun j hj => ?_⟩
  by_cases e : j = k
  · subst e
    rw [hx]
    refine ⟨?_, by rw [if_pos rfl]⟩
    rw [if_neg (by omega), if_pos rfl]
  · have h1 := h j (by omega)
    refine ⟨?_, ?_⟩
    · rw [if_neg (by omega), if_neg (by omega)]; exact h1.1
    · rw [if_neg (by omega), if_neg (by omega)]; exact h1.2

/-- The fields with one put in at place p. -/
def insAt (fs : List Fld) (p : Nat) (x : Fld) : List Fld := fs.take p ++ x :: fs.drop p
theorem insAt_length {fs : List Fld} {p : Nat} (x : Fld) (hp : p ≤ fs.length) : (insAt fs p x).length = fs.length + 1 := by simp [insAt]; omega
theorem insAt_lt {fs : List Fld} {p : Nat} (x : Fld) {j : Nat} (hj : j < p) (hp : p ≤ fs.length) : (insAt fs p x).getD j Fld.no = fs.getD j Fld.no := by
  simp [insAt, List.getD_eq_getElem?_getD, List.getElem?_append_left (show j < (fs.take p).length by simp; omega), hj]
theorem insAt_eq {fs : List Fld} {p : Nat} (x : Fld) (hp : p ≤ fs.length) : (insAt fs p x).getD p Fld.no = x := by
  simp [insAt, List.getD_eq_getElem?_getD, Nat.min_eq_left hp]
theorem insAt_gt {fs : List Fld} {p : Nat} (x : Fld) {j : Nat} (hj : p ≤ j) (hp : p ≤ fs.length) : (insAt fs p x).getD (j + 1) Fld.no = fs.getD j Fld.no := by
  have e : j + 1 - p = (j - p) + 1 := by omega
  have e2 : p + (j - p) = j := by omega
  simp [insAt, List.getD_eq_getElem?_getD, List.getElem?_append_right (show (fs.take p).length ≤ j + 1 by simp; omega), Nat.min_eq_left hp, e, e2]

/-- Where the first one so named lies behind the insertion. -/
theorem first_ins {fs : List Fld} {z : List Int} {k p : Nat} (x : Fld) (hk : IsFirst fs z k) (hp : p ≤ fs.length) :
    (k < p → IsFirst (insAt fs p x) z k) ∧ (p ≤ k → Pl.Fold x.nm z → IsFirst (insAt fs p x) z p) ∧ (p ≤ k → ¬ Pl.Fold x.nm z → IsFirst (insAt fs p x) z (k + 1)) := by
  obtain ⟨h1, h2, h3⟩ := hk
  have hl := insAt_length x hp
  refine ⟨fun h => ⟨by omega, fun j hj => ?_, fun _ => ?_⟩, fun h hf => ⟨by omega, fun j hj => ?_, fun _ => ?_⟩, fun h hf => ⟨by omega, fun j hj => ?_, fun hj => ?_⟩⟩
  · rw [insAt_lt x (by omega) hp]; exact h2 j hj
  · rw [insAt_lt x h hp]; exact h3 (by omega)
  · rw [insAt_lt x hj hp]; exact h2 j (by omega)
  · rw [insAt_eq x hp]; exact hf
  · rcases Nat.lt_trichotomy j p with e | e | e
    · rw [insAt_lt x e hp]; exact h2 j (by omega)
    · subst e; rw [insAt_eq x hp]; exact hf
    · obtain ⟨j', rfl⟩ : ∃ j', j = j' + 1 := ⟨j - 1, by omega⟩
      rw [insAt_gt x (by omega) hp]; exact h2 j' (by omega)
  · rw [insAt_gt x h hp]; exact h3 (by omega)
theorem val_ins_lt {fs : List Fld} {k p : Nat} (x : Fld) (h : k < p) (hp : p ≤ fs.length) : valOf (insAt fs p x) k = valOf fs k := by
  unfold valOf; rw [insAt_length x hp, insAt_lt x h hp, if_pos (by omega), if_pos (by omega)]
theorem val_ins_eq {fs : List Fld} {p : Nat} (x : Fld) (hp : p ≤ fs.length) : valOf (insAt fs p x) p = .slice x.va x.vb.length x.vc := by
  unfold valOf; rw [insAt_length x hp, insAt_eq x hp, if_pos (by omega)]
theorem val_ins_gt {fs : List Fld} {k p : Nat} (x : Fld) (h : p ≤ k) (hp : p ≤ fs.length) : valOf (insAt fs p x) (k + 1) = valOf fs k := by
  unfold valOf; rw [insAt_length x hp, insAt_gt x h hp]
  by_cases e : k < fs.length
  · rw [if_pos e, if_pos (by omega)]
  · rw [if_neg e, if_neg (by omega)]
end Go.Proofs.Qxb6629082a
