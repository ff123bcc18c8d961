import Derived.Test.Qxb6629082aWc
namespace Go.Proofs.Qxb6629082a
open Go.RowKit
set_option linter.unusedVariables false

/-- What Value answers where the first field so named is k. -/
def valOf (fs : List Fld) (k : Nat) : Value := if k < fs.length then .slice (fs.getD k Fld.no).va (fs.getD k Fld.no).vb.length (fs.getD k Fld.no).vc else .slice none 0 0

/-- Head.Value: the value of the first field that is so named, or nil. -/
theorem value_any (hb : Nat) (a : Option Addr) (cap : Nat) (fs : List Fld) (s : ByteArray) (k0 : Nat) (w : World) (h : Fields w a fs) (hl : fs.length ≤ 65537) (hs : s.size ≤ 9223372036854775807) (hk0 : IsFirst fs (Pl.str s) k0)
    (hcell : w.cell? ⟨hb, 5, none⟩ = some (.slice a fs.length cap)) :
    Calls Try.prog 8 #[.pointer (some ⟨hb, 0, none⟩), .string s] w fun e w' => e = .returned (.tuple #[valOf fs k0, .bool (decide (k0 < fs.length))]) ∧ Below w.heap.size w w' := by
  have H : Hid (Fields w a fs ∧ IsFirst fs (Pl.str s) k0) := ⟨h, hk0⟩
  have hkl := hk0.1
  clear h hk0
  go_enter Try.func8, Try.ntmps8
  go_wp2
  go_loopw [13] (fun i wr => ∃ k : Nat, k ≤ k0 ∧ i = .int .i64 k ∧ Hid (Below w.heap.size w wr)) (fun i _ => fs.length - (intOf i).toNat)
  case atStart => exact ⟨0, Nat.zero_le _, rfl, Below.refl _ _⟩
  case round =>
    obtain ⟨k, hk, rfl, HB⟩ := hrel
    by_cases hlt : k < fs.length
    · obtain ⟨b, off, rfl, hbl, hat, hok⟩ := (H.out.1.below HB.out) k hlt
      have hno := H.out.2.2.1 k
      have hyes := H.out.2.2.2
      have hval : valOf fs k = .slice (fs.getD k Fld.no).va (fs.getD k Fld.no).vb.length (fs.getD k Fld.no).vc := by unfold valOf; rw [if_pos hlt]
      generalize hf : fs.getD k Fld.no = f at hat hok hno hval
      obtain ⟨na, nc, nm, va, vc, vb⟩ := f
      obtain ⟨hc0, hc1⟩ := hat
      simp only at hc0 hc1 hno hval
      have HO : Hid (FldOk wr ⟨na, nc, nm, va, vc, vb⟩) := hok
      by_cases hkk : k < k0
      · have HF : Hid (¬ Pl.Fold nm (Pl.str s)) := hno hkk
        clear hno hyes hok hf hval
        go_wp2_with (go_at_call 15; refine (nameIs_no _ _ _ _ _ (HO.out.1.below ((Below.refl _ _).alloc (Nat.le_refl _) _)) HO.out.2.2.1 hs HF.out).mono ?_; rintro e w' ⟨rfl, q2, hw⟩; obtain rfl := hw)
        go_roundw
        case rel => exact ⟨k + 1, by omega, by go_num, (HB.out.alloc HB.out.size _).trans (below_draws _ _ _)⟩
        case measure => simp [intOf]; omega
      · obtain rfl : k = k0 := by omega
        have HF : Hid (Pl.Fold nm (Pl.str s)) := by have := hyes hlt; rwa [hf] at this
        have HV : Hid (valOf fs k = .slice va vb.length vc) := hval
        clear hno hyes hok hf H hval
        go_wp2_with (go_at_call 15; refine (nameIs_yes _ _ _ _ _ (HO.out.1.below ((Below.refl _ _).alloc (Nat.le_refl _) _)) HO.out.2.2.1 hs HF.out).mono ?_; rintro e w' ⟨rfl, q2, hw⟩; obtain rfl := hw)
        go_ret2
        exact ⟨by rw [HV.out, decide_eq_true hlt]; rfl, (HB.out.alloc HB.out.size _).trans (below_draws _ _ _)⟩
    · obtain rfl : k0 = fs.length := by omega
      have HV : Hid (valOf fs fs.length = .slice none 0 0) := by show valOf _ _ = _; unfold valOf; rw [if_neg (Nat.lt_irrefl _)]
      clear H
      go_wp2
      go_ret2
      exact ⟨by rw [HV.out, decide_eq_false (Nat.lt_irrefl _)]; rfl, HB.out⟩
end Go.Proofs.Qxb6629082a
