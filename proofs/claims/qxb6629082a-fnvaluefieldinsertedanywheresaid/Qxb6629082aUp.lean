import Derived.Test.Qxb6629082aWh
import Derived.ProofKit
import Derived.Deep.SlicePairs
namespace Go.Proofs.Qxb6629082a
open Go.RowKit Go.ChangeShapes Go.WideShapes Go.ChangeAt Go.Deep
set_option linter.unusedVariables false

theorem lt_of_cell {w : World} {b off : Nat} {v : Value} (h : w.cell? ⟨b, off, none⟩ = some v) : b < w.heap.size := by
  refine Decidable.byContradiction fun hn => ?_
  have hno : w.heap[b]? = none := by simp; omega
  simp [World.cell?, hno] at h
theorem wf8 {x : Int} (h : (Lit.int .u8 x).wf = true) : 0 ≤ x ∧ x ≤ 255 := by
  simp [Lit.wf, IntKind.min, IntKind.max, IntKind.signed, IntKind.bits] at h; omega

/-- A slice of bytes that came in, opened. -/
theorem open_by {H : Type} {enc : TypeId × Value → H} {W : World} {fuel : Nat} {v : Value} {x : DataW H × List MemPlace} (hf : DataW.trod enc Try.prog W 0 (fun _ => true) true fuel 22 [v] = some x) :
    ∃ (a : Option Addr) (cap : Nat) (bs : List Int), v = .slice a bs.length cap ∧ By W a bs ∧ bs.length ≤ 9223372036854775807 ∧ (a = none → bs = [] ∧ cap = 0) := by
  rcases open_ints Try.underlying22 Try.underlying5 (by kernel_rfl) hf with ⟨hcs, _⟩ | ⟨x, l, c, zs, hcs, _, hl, hm, hz, _, hcell, hwz⟩
  · simp at hcs
    exact ⟨none, 0, [], by simpa using hcs, fun i hi => absurd hi (Nat.not_lt_zero _), Nat.zero_le _, fun _ => ⟨rfl, rfl⟩⟩
  · simp at hcs
    subst hcs
    have hz' : zs.length = c := by simpa using hz
    refine ⟨some x, c, zs.take l, by simp; omega, fun i hi => ?_, by unfold maxLen at hm; simp; omega, fun h => by cases h⟩
    have hi' : i < l := by simp at hi; omega
    obtain ⟨b, off, spot⟩ := x
    have hspot : spot = none := by simpa [Addr.add] using World.cell?_spot (hcell 0 (by omega))
    subst hspot
    have hc : W.cell? ⟨b, off + i, none⟩ = some (.int .u8 (zs.getD i 0)) := by rw [← add_plain]; exact hcell i (by omega)
    have e : (zs.take l).getD i 0 = zs.getD i 0 := by simp [List.getD_eq_getElem?_getD, hi']
    have hb : 0 ≤ zs.getD i 0 ∧ zs.getD i 0 ≤ 255 := by
      refine wf8 (hwz _ ?_)
      have : i < zs.length := by omega
      simp [List.getD_eq_getElem?_getD, this]
    exact ⟨b, off, rfl, lt_of_cell hc, by rw [e]; exact hc, by rw [e]; exact hb.1, by rw [e]; exact hb.2⟩

/-- A slice of pairs that came in, opened. -/
theorem open_fields {H : Type} {enc : TypeId × Value → H} {W : World} {fuel : Nat} {v : Value} {x : DataW H × List MemPlace} (hf : DataW.trod enc Try.prog W 0 (fun _ => true) true fuel 23 [v] = some x) :
    ∃ (a : Option Addr) (cap : Nat) (fs : List Fld), v = .slice a fs.length cap ∧ Fields W a fs ∧ fs.length ≤ 9223372036854775807 ∧ (a = none → fs = [] ∧ cap = 0) := by
  rcases open_slice_pairs Try.underlying23 Try.underlying37 (by kernel_rfl) rfl rfl (by kernel_rfl) (by kernel_rfl) hf with ⟨hcs, _⟩ | ⟨y, l, c, m, n, V0, V1, D0, D1, P0, P1, hcs, _, hl, hm, hmm, _, hx⟩
  · simp at hcs
    exact ⟨none, 0, [], by simpa using hcs, fun i hi => absurd hi (Nat.not_lt_zero _), Nat.zero_le _, fun _ => ⟨rfl, rfl⟩⟩
  · simp at hcs
    subst hcs
    have hmc : m = c := by simpa using hmm
    subst hmc
    have each : ∀ i, i < l → ∃ f : Fld, V0 i = .slice f.na f.nm.length f.nc ∧ V1 i = .slice f.va f.vb.length f.vc ∧ FldOk W f := by
      intro i hi
      obtain ⟨_, _, h0, h1⟩ := hx i (by omega)
      obtain ⟨na, nc, nm, e0, b0, l0, _⟩ := open_by h0
      obtain ⟨va, vc, vb, e1, b1, l1, _⟩ := open_by h1
      exact ⟨⟨na, nc, nm, va, vc, vb⟩, e0, e1, b0, b1, l0, l1⟩
    have : ∃ fs : List Fld, fs.length = l ∧ ∀ i, i < l → V0 i = .slice (fs.getD i Fld.no).na (fs.getD i Fld.no).nm.length (fs.getD i Fld.no).nc ∧ V1 i = .slice (fs.getD i Fld.no).va (fs.getD i Fld.no).vb.length (fs.getD i Fld.no).vc ∧ FldOk W (fs.getD i Fld.no) := by
      have pick : ∀ n, n ≤ l → ∃ fs : List Fld, fs.length = n ∧ ∀ i, i < n → V0 i = .slice (fs.getD i Fld.no).na (fs.getD i Fld.no).nm.length (fs.getD i Fld.no).nc ∧ V1 i = .slice (fs.getD i Fld.no).va (fs.getD i Fld.no).vb.length (fs.getD i Fld.no).vc ∧ FldOk W (fs.getD i Fld.no) := by
        intro n
        induction n with
        | zero => intro _; exact ⟨[], rfl, fun i hi => absurd hi (Nat.not_lt_zero _)⟩
        | succ n ih =>
          intro hn
          obtain ⟨fs, hfl, hfs⟩ := ih (by omega)
          obtain ⟨f, hfn⟩ := each n (by omega)
          refine ⟨fs ++ [f], by simp [hfl], fun i hi => ?_⟩
          by_cases e : i = n
          · subst e
            have e2 : (fs ++ [f]).getD i Fld.no = f := by simp [List.getD_eq_getElem?_getD, ← hfl]
            rw [e2]; exact hfn
          · have e2 : (fs ++ [f]).getD i Fld.no = fs.getD i Fld.no := by
              simp [List.getD_eq_getElem?_getD, List.getElem?_append_left (show i < fs.length by omega)]
            rw [e2]; exact hfs i (by omega)
      exact pick l (Nat.le_refl _)
    obtain ⟨fs, rfl, hfs⟩ := this
    refine ⟨some y, m, fs, rfl, fun i hi => ?_, by unfold maxLen at hm; omega, fun h => by cases h⟩
    obtain ⟨b, off, spot⟩ := y
    have hspot : spot = none := by simpa [Addr.add] using World.cell?_spot (hx 0 (by omega)).1
    subst hspot
    obtain ⟨c0, c1, _, _⟩ := hx i (by omega)
    rw [add_plain] at c0 c1
    obtain ⟨e0, e1, ok⟩ := hfs i hi
    rw [e0] at c0
    rw [e1] at c1
    exact ⟨b, off, rfl, lt_of_cell c0, ⟨c0, by simpa [Nat.add_assoc] using c1⟩, ok⟩
end Go.Proofs.Qxb6629082a
