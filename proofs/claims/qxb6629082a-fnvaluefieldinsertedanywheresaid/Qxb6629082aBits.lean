/-
  THE TEST OF EqualFold ON TWO BYTES, told by folding: bits of eight, no walk.
-/
import Derived.Laws.Entries
import Derived.Test.Qxb6629082aPlain
namespace Go.Proofs.Qxb6629082a
theorem bits_xor8 (A B : BitVec 8) : bits .xor .u8 (A.toNat : Int) (B.toNat : Int) = ((A ^^^ B).toNat : Int) := by
  have e1 : BitVec.ofInt 8 (A.toNat : Int) = A := by simp
  have e2 : BitVec.ofInt 8 (B.toNat : Int) = B := by simp
  have h := (A ^^^ B).isLt
  show IntKind.wrap .u8 ((BitVec.ofInt 8 (A.toNat : Int) ^^^ BitVec.ofInt 8 (B.toNat : Int)).toNat : Int) = _
  rw [e1, e2]
  have h2 : ((A ^^^ B).toNat : Int) % 2 ^ 8 = ((A ^^^ B).toNat : Int) := Int.emod_eq_of_lt (by omega) (by omega)
  simp only [IntKind.wrap, IntKind.signed, IntKind.bits, h2, Bool.false_and]
  rfl
theorem or32 : ∀ a : Fin 256, ((97 ≤ bits .or .u8 (a.val : Int) 32 ∧ bits .or .u8 (a.val : Int) 32 ≤ 122) ↔ Pl.lowI a.val = Pl.lowI (BitVec.ofNat 8 a.val ^^^ 32#8).toNat) := by decide +kernel
theorem low_xor : ∀ a : Fin 26, (BitVec.ofNat 8 (a.val + 65) ^^^ BitVec.ofNat 8 (a.val + 97)).toNat = 32 ∧ (BitVec.ofNat 8 (a.val + 97) ^^^ BitVec.ofNat 8 (a.val + 65)).toNat = 32 := by decide +kernel
theorem lowI_eq {a b : Int} (h : Pl.lowI a = Pl.lowI b) : a = b ∨ (65 ≤ a ∧ a ≤ 90 ∧ b = a + 32) ∨ (65 ≤ b ∧ b ≤ 90 ∧ a = b + 32) := by
  unfold Pl.lowI at h
  split at h <;> split at h <;> omega
/-- The test of EqualFold on two bytes, told by folding. -/
theorem fold_bits (x y : Int) (hx0 : 0 ≤ x) (hx1 : x ≤ 255) (hy0 : 0 ≤ y) (hy1 : y ≤ 255) :
    (bits .xor .u8 x y = 0 ∧ Pl.lowI x = Pl.lowI y) ∨ (bits .xor .u8 x y = 32 ∧ (97 ≤ bits .or .u8 x 32 ∧ bits .or .u8 x 32 ≤ 122) ∧ Pl.lowI x = Pl.lowI y) ∨
    (bits .xor .u8 x y = 32 ∧ ¬ (97 ≤ bits .or .u8 x 32 ∧ bits .or .u8 x 32 ≤ 122) ∧ Pl.lowI x ≠ Pl.lowI y) ∨ (bits .xor .u8 x y ≠ 0 ∧ bits .xor .u8 x y ≠ 32 ∧ Pl.lowI x ≠ Pl.lowI y) := by
  obtain ⟨a, rfl⟩ := Int.eq_ofNat_of_zero_le hx0
  obtain ⟨b, rfl⟩ := Int.eq_ofNat_of_zero_le hy0
  have ha : a < 256 := by omega
  have hb : b < 256 := by omega
  have ea : (BitVec.ofNat 8 a).toNat = a := by simp; omega
  have eb : (BitVec.ofNat 8 b).toNat = b := by simp; omega
  have ex : bits .xor .u8 (a : Int) (b : Int) = ((BitVec.ofNat 8 a ^^^ BitVec.ofNat 8 b).toNat : Int) := by
    have := bits_xor8 (BitVec.ofNat 8 a) (BitVec.ofNat 8 b)
    rwa [ea, eb] at this
  by_cases h0 : BitVec.ofNat 8 a ^^^ BitVec.ofNat 8 b = 0#8
  · have := BitVec.xor_eq_zero_iff.1 h0
    have e : a = b := by rw [← ea, ← eb, this]
    subst e
    exact .inl ⟨by rw [ex, h0]; rfl, rfl⟩
  have h0' : bits .xor .u8 (a : Int) (b : Int) ≠ 0 := by
    rw [ex]; intro h
    exact h0 (BitVec.eq_of_toNat_eq ((show _ = 0 by omega : (BitVec.ofNat 8 a ^^^ BitVec.ofNat 8 b).toNat = 0).trans rfl))
  by_cases h1 : BitVec.ofNat 8 a ^^^ BitVec.ofNat 8 b = 32#8
  · have e : BitVec.ofNat 8 b = BitVec.ofNat 8 a ^^^ 32#8 := by rw [← h1, ← BitVec.xor_assoc, BitVec.xor_self, BitVec.zero_xor]
    have h2 := or32 ⟨a, ha⟩
    simp only at h2
    rw [← e, eb] at h2
    have h3 : bits .xor .u8 (a : Int) (b : Int) = 32 := by rw [ex, h1]; rfl
    by_cases h4 : 97 ≤ bits .or .u8 (a : Int) 32 ∧ bits .or .u8 (a : Int) 32 ≤ 122
    · exact .inr (.inl ⟨h3, h4, h2.1 h4⟩)
    · exact .inr (.inr (.inl ⟨h3, h4, fun h => h4 (h2.2 h)⟩))
  · refine .inr (.inr (.inr ⟨h0', ?_, ?_⟩))
    · rw [ex]; intro h
      exact h1 (BitVec.eq_of_toNat_eq ((show _ = 32 by omega : (BitVec.ofNat 8 a ^^^ BitVec.ofNat 8 b).toNat = 32).trans rfl))
    · intro h
      rcases lowI_eq h with h | ⟨g1, g2, g3⟩ | ⟨g1, g2, g3⟩
      · have e : a = b := by omega
        subst e; simp at h0
      · have := (low_xor ⟨a - 65, by omega⟩).1
        simp only at this
        rw [show a - 65 + 65 = a by omega, show a - 65 + 97 = b by omega] at this
        exact h1 (BitVec.eq_of_toNat_eq this)
      · have := (low_xor ⟨b - 65, by omega⟩).2
        simp only at this
        rw [show b - 65 + 65 = b by omega, show b - 65 + 97 = a by omega] at this
        exact h1 (BitVec.eq_of_toNat_eq this)
end Go.Proofs.Qxb6629082a
