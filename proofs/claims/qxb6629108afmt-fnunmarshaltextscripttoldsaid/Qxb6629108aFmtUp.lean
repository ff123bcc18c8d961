import Derived.Test.Qxb6629108aFmtWb
import Derived.ProofKit
namespace Go.Proofs.Qxb6629108aFmt
open Go.RowKit Go.ChangeShapes Go.WideShapes Go.ChangeAt
set_option linter.unusedVariables false

theorem lt_of_cell {w : World} {p : Addr} {v : Value} (h : w.cell? p = some v) : p.block < w.heap.size := by
  refine Decidable.byContradiction fun hn => ?_
  have hno : w.heap[p.block]? = none := by simp; omega
  simp [World.cell?, hno] at h
theorem wf8 {x : Int} (h : (Lit.int .u8 x).wf = true) : 0 ≤ x ∧ x ≤ 255 := by
  simp [Lit.wf, IntKind.min, IntKind.max, IntKind.signed, IntKind.bits] at h; omega

/-- A slice of bytes that came in, opened. -/
theorem open_by {H : Type} {enc : TypeId × Value → H} {W : World} {fuel : Nat} {v : Value} {x : DataW H × List MemPlace} (hf : DataW.trod enc Tryf.prog W 0 (fun _ => true) true fuel 22 [v] = some x) :
    ∃ (a : Option Addr) (cap : Nat) (s : ByteArray), v = .slice a s.size cap ∧ By W a s ∧ s.size ≤ 9223372036854775807 := by
  rcases open_ints Tryf.underlying22 Tryf.underlying5 (by kernel_rfl) hf with ⟨hcs, _⟩ | ⟨x, l, c, zs, hcs, _, hl, hm, hz, _, hcell, hwz⟩
  · simp at hcs
    exact ⟨none, 0, ⟨#[]⟩, hcs, ⟨fun _ => rfl, fun j hj => absurd hj (by simp)⟩, Nat.zero_le _⟩
  · simp at hcs
    subst hcs
    have hz' : zs.length = c := by simpa using hz
    have hsz : (strOfNums (zs.take l)).size = l := by rw [strOfNums_size]; simp; omega
    refine ⟨some x, c, strOfNums (zs.take l), by rw [hsz], ⟨(fun h => by cases h), fun j hj => ⟨x, rfl, ?_, ?_⟩⟩, by rw [hsz]; unfold maxLen at hm; omega⟩
    all_goals
      have hj' : j < l := by
        have : (strOfNums (zs.take l)).data.toList.length = l := by rw [strOfNums_data]; simp; omega
        omega
      have hc := hcell j (by omega)
    · have := lt_of_cell hc; rwa [add_block] at this
    · rw [hc]
      have hb : 0 ≤ zs.getD j 0 ∧ zs.getD j 0 ≤ 255 := by
        refine wf8 (hwz _ ?_)
        have : j < zs.length := by omega
        simp [List.getD_eq_getElem?_getD, this]
      have e0 : zs.getD j 0 = zs[j]'(by omega) := by simp [List.getD_eq_getElem?_getD, show j < zs.length by omega]
      rw [e0] at hb
      have e1 : ((strOfNums (zs.take l)).data.toList[j]'hj).toNat = (zs[j]'(by omega)).toNat := by
        simp only [strOfNums_data, List.getElem_map, List.getElem_take]
        rw [UInt8.toNat_ofNat']
        omega
      rw [e1, e0]
      congr 2
      omega
end Go.Proofs.Qxb6629108aFmt
