import Derived.Test.Qxb6629158aWg
import Derived.ProofKit
namespace Go.Proofs.Qxb6629158a
open Go.RowKit Go.ChangeShapes Go.WideShapes Go.ChangeAt
set_option linter.unusedVariables false

theorem lt_of_cell {w : World} {b off : Nat} {v : Value} (h : w.cell? ⟨b, off, none⟩ = some v) : b < w.heap.size := by
  refine Decidable.byContradiction fun hn => ?_
  have hno : w.heap[b]? = none := by simp; omega
  simp [World.cell?, hno] at h

theorem sl_of {w : World} {x : Addr} {len cap : Nat} {zs : List Int} (hlc : len ≤ cap) (hz : zs.length = cap) (hcell : ∀ i, i < zs.length → w.cell? (x.add i) = some (.int .i64 (zs.getD i 0))) : SlI w (some x) (zs.take len) := by
  intro i hi
  have hi' : i < len := by simp at hi; omega
  obtain ⟨b, off, spot⟩ := x
  have hspot : spot = none := by simpa [Addr.add] using World.cell?_spot (hcell 0 (by omega))
  subst hspot
  have hc : w.cell? ⟨b, off + i, none⟩ = some (.int .i64 (zs.getD i 0)) := by rw [← add_plain]; exact hcell i (by omega)
  have e : (zs.take len).getD i 0 = zs.getD i 0 := by simp [List.getD_eq_getElem?_getD, hi']
  exact ⟨b, off, rfl, lt_of_cell hc, by rw [e]; exact hc⟩

/-- An input of either law: none of the law's, or natural numbers in strict order below n. -/
theorem parts (zs : List Int) (n : Int) (w : World) (a : Option Addr) (h : SlI w a zs) :
    (¬ (zs.length ≤ 65536 ∧ 0 ≤ n ∧ n ≤ 65536 ∧ Valid zs n)) ∨
    ∃ (ns : List Nat) (m : Nat), n = m ∧ zs.length = ns.length ∧ ns.length ≤ 65536 ∧ m ≤ 65536 ∧ Sl w a ns ∧ Pl.Inc ns ∧ ∀ x ∈ ns, x < m := by
  by_cases c : zs.length ≤ 65536 ∧ 0 ≤ n ∧ n ≤ 65536 ∧ Valid zs n
  · obtain ⟨h1, h2, h3, hv⟩ := c
    obtain ⟨m, rfl⟩ := Int.eq_ofNat_of_zero_le h2
    obtain ⟨ns, e, hg, hi, hx⟩ := nat_of_valid hv
    exact .inr ⟨ns, m, rfl, e, by omega, by omega, sl_of_raw h e hg, hi, fun x hm => by have := hx x hm; omega⟩
  · exact .inl c
end Go.Proofs.Qxb6629158a
