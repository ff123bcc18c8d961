/-
  THE PLAIN LAWS: bytes as integers, folding of ASCII capitals; no Go in sight.
-/
namespace Go.Proofs.Qxb6629082a
namespace Pl

/-- An ASCII capital made small. -/
def lowI (x : Int) : Int := if 65 ≤ x ∧ x ≤ 90 then x + 32 else x
/-- The same text once every ASCII capital is made small. -/
def Fold (nm zs : List Int) : Prop := nm.length = zs.length ∧ ∀ i, i < nm.length → lowI (nm.getD i 0) = lowI (zs.getD i 0)
/-- The bytes of a string. -/
def str (s : ByteArray) : List Int := s.data.toList.map fun b => (b.toNat : Int)
theorem str_length (s : ByteArray) : (str s).length = s.size := by simp [str]
theorem str_get (s : ByteArray) (k : Nat) (h : k < s.size) : (str s).getD k 0 = (s[k].toNat : Int) := by
  have h' : k < s.data.size := h
  have e : s[k] = s.data[k] := rfl
  rw [e]
  simp [str, List.getD_eq_getElem?_getD, Array.getElem?_eq_getElem h']

/-- The case of an ASCII letter swapped. -/
def swI (x : Int) : Int := if 97 ≤ x ∧ x ≤ 122 then x - 32 else if 65 ≤ x ∧ x ≤ 90 then x + 32 else x
theorem low_swI (x : Int) : lowI (swI x) = lowI x := by
  unfold lowI swI
  split
  · rw [if_pos (by omega), if_neg (by omega)]; omega
  · split
    · rw [if_neg (by omega)]
    · rfl
theorem swI_bounds (x : Int) (h0 : 0 ≤ x) (h1 : x ≤ 255) : 0 ≤ swI x ∧ swI x ≤ 255 := by
  unfold swI; split
  · omega
  · split <;> omega
theorem str_bounds (s : ByteArray) (k : Nat) : 0 ≤ (str s).getD k 0 ∧ (str s).getD k 0 ≤ 255 := by
  by_cases h : k < s.size
  · rw [str_get s k h]; have := s[k].toNat_lt; omega
  · rw [List.getD_eq_getElem?_getD, List.getElem?_eq_none (by rw [str_length]; omega)]; simp
theorem getD_map_swI (zs : List Int) (i : Nat) (h : i < zs.length) : (zs.map swI).getD i 0 = swI (zs.getD i 0) := by
  simp [List.getD_eq_getElem?_getD, h]
theorem fold_swap (nm zs : List Int) : Fold nm (zs.map swI) ↔ Fold nm zs := by
  unfold Fold
  rw [List.length_map]
  refine and_congr_right fun hl => forall_congr' fun i => forall_congr' fun hi => ?_
  rw [getD_map_swI zs i (by omega), low_swI]

end Pl
end Go.Proofs.Qxb6629082a
