import Derived.Test.Qxb6629039aWe
import Derived.ProofKit
namespace Go.Proofs.Qxb6629039a
open Go.RowKit Go.ChangeShapes Go.WideShapes Go.ChangeAt

theorem lt_of_cell {w : World} {b off : Nat} {v : Value} (h : w.cell? ⟨b, off, none⟩ = some v) : b < w.heap.size := by
  refine Decidable.byContradiction fun hn => ?_
  have hno : w.heap[b]? = none := by simp; omega
  simp [World.cell?, hno] at h

theorem sl_of {w : World} {x : Addr} {len cap : Nat} {zs : List Int} (hlc : len ≤ cap) (hz : zs.length = cap) (hcell : ∀ i, i < zs.length → w.cell? (x.add i) = some (.int .i32 (zs.getD i 0))) : Sl w (some x) (zs.take len) := by
  intro i hi
  have hi' : i < len := by simp at hi; omega
  obtain ⟨b, off, spot⟩ := x
  have hspot : spot = none := by simpa [Addr.add] using World.cell?_spot (hcell 0 (by omega))
  subst hspot
  have hc : w.cell? ⟨b, off + i, none⟩ = some (.int .i32 (zs.getD i 0)) := by rw [← add_plain]; exact hcell i (by omega)
  have e : (zs.take len).getD i 0 = zs.getD i 0 := by simp [List.getD_eq_getElem?_getD, hi']
  exact ⟨b, off, rfl, lt_of_cell hc, by rw [e]; exact hc⟩

theorem wf64 {x : Int} (h : (Lit.int .i64 x).wf = true) : -9223372036854775808 ≤ x ∧ x ≤ 9223372036854775807 := by
  simp [Lit.wf, IntKind.min, IntKind.max, IntKind.signed, IntKind.bits] at h; omega
end Go.Proofs.Qxb6629039a
