import Derived.Test.Qxb6629082aWg
namespace Go.Proofs.Qxb6629082a
open Go.RowKit
set_option linter.unusedVariables false

/-- zzFields, nil or not. -/
theorem fieldsC_any (a : Option Addr) (cap : Nat) (fs : List Fld) (w : World) (h : Fields w a fs) (hl : fs.length ≤ 65536) (hn : a = none → fs = [] ∧ cap = 0) :
    Calls Try.prog 7 #[.slice a fs.length cap] w fun e w' => ∃ a2 c2, e = .returned (.slice a2 fs.length c2) ∧ Below w.heap.size w w' ∧ Fields w' a2 fs := by
  cases a with
  | none =>
    obtain ⟨rfl, rfl⟩ := hn rfl
    refine (fields_nil w).mono ?_
    rintro e w' ⟨rfl, rfl⟩
    exact ⟨none, 0, rfl, Below.refl _ _, h⟩
  | some a =>
    refine (fields_any a cap fs w h hl).mono ?_
    rintro e w' ⟨rfl, hb, hf⟩
    exact ⟨_, _, rfl, hb, hf⟩

theorem isFirst_swap {fs : List Fld} {s : ByteArray} {k : Nat} (h : IsFirst fs (Pl.str s) k) : IsFirst fs (Pl.str (swapS s)) k := by
  rw [str_swapS]
  exact ⟨h.1, fun j hj hf => h.2.1 j hj ((Pl.fold_swap _ _).1 hf), fun hk => (Pl.fold_swap _ _).2 (h.2.2 hk)⟩

theorem below_chain {w w1 w2 : World} (h1 : Below w.heap.size w w1) (h2 : Below w1.heap.size w1 w2) : Below w.heap.size w w2 := h1.trans (h2.mono h1.size)

set_option maxHeartbeats 1000000 in
theorem ignores_any (m t r a : Option Addr) (ml mc tl tc rl rc cap : Nat) (st mi : Int) (fs : List Fld) (s : ByteArray) (w : World) (h : Fields w a fs) (hn : a = none → fs = [] ∧ cap = 0) (hs : s.size ≤ 9223372036854775807)
    (h1 : ml ≤ 9223372036854775807) (h2 : tl ≤ 9223372036854775807) (h3 : rl ≤ 9223372036854775807) (h4 : fs.length ≤ 9223372036854775807) :
    Calls Try.prog 3 #[.slice m ml mc, .slice t tl tc, .int .i64 st, .slice r rl rc, .int .i64 mi, .slice a fs.length cap, .string s] w fun e w' => e = .returned (.bool true) ∧ Below w.heap.size w w' := by
  obtain ⟨k0, hk0⟩ := isFirst_ex fs (Pl.str s)
  have H : Hid (Fields w a fs ∧ IsFirst fs (Pl.str s) k0 ∧ (a = none → fs = [] ∧ cap = 0)) := ⟨h, hk0, hn⟩
  have hkl := hk0.1
  clear h hk0 hn
  go_enter Try.func3, Try.ntmps3
  go_wp2_with fail
  refine (bytes5_any _ _ _ _ _ _ _ _ _ _ _ _ _ _ _ _ H.out.1 hs h1 h2 h3 h4).mono ?_
  rintro e w' ⟨⟨bb, rfl⟩, hw⟩
  obtain rfl := hw.symm
  cases bb
  · go_wp2
    go_ret
    exact ⟨rfl, Below.refl _ _⟩
  go_wp2_with fail
  refine (tooBig_any _ _ _ _ _ _ _ _ _ _ _ _ _ _ _ _ _ _ _ _ H.out.1 hs h1 h2 h3 h4 (by omega) (by omega)).mono ?_
  rintro e w' ⟨hw, rfl | ⟨rfl, hl, hss⟩⟩
  · obtain rfl := hw
    go_wp2
    go_ret
    exact ⟨rfl, Below.refl _ _⟩
  obtain rfl := hw
  go_wp2_with fail
  refine (fieldsC_any _ _ _ _ H.out.1 hl H.out.2.2).mono ?_
  rintro e w1 ⟨a2, c2, rfl, hb1, hf1⟩
  have B1 : Hid (Below w.heap.size w w1 ∧ Fields w1 a2 fs) := ⟨hb1, hf1⟩
  clear hb1 hf1
  have HA : Hid (∀ w2, Below w1.heap.size w1 w2 → Below w.heap.size w w2 ∧ Fields w2 a2 fs ∧ Fields w2 a fs) := fun w2 hb2 => ⟨below_chain B1.out.1 hb2, B1.out.2.below hb2, (H.out.1.below B1.out.1).below hb2⟩
  clear B1
  by_cases hlt : k0 < fs.length
  · obtain ⟨b, off, rfl, hbl, hat, hok⟩ := H.out.1 k0 hlt
    have hval : valOf fs k0 = .slice (fs.getD k0 Fld.no).va (fs.getD k0 Fld.no).vb.length (fs.getD k0 Fld.no).vc := by unfold valOf; rw [if_pos hlt]
    generalize hf : fs.getD k0 Fld.no = f at hat hok hval
    obtain ⟨na, nc, nm, va, vc, vb⟩ := f
    simp only at hval
    have HO : Hid (FldAt w b (off + k0 * 2) ⟨na, nc, nm, va, vc, vb⟩ ∧ FldOk w ⟨na, nc, nm, va, vc, vb⟩ ∧ b < w.heap.size ∧ valOf fs k0 = .slice va vb.length vc) := ⟨hat, hok, hbl, hval⟩
    clear hat hok hbl hval hf
    go_wp2_with fail
    refine (value_any w1.heap.size a2 c2 fs s k0 _ (HA.out _ ((Below.refl _ _).alloc (Nat.le_refl _) _)).2.1 (by omega) hs H.out.2.1 (by simp [go_sem])).mono ?_
    rw [HO.out.2.2.2, decide_eq_true hlt]
    rintro e w2 ⟨rfl, hb2⟩
    have C2 : Hid (Below w1.heap.size w1 w2 ∧ w2.cell? ⟨w1.heap.size, 5, none⟩ = some (.slice a2 fs.length c2) ∧ w1.heap.size < w2.heap.size) := by
      refine ⟨((Below.refl _ _).alloc (Nat.le_refl _) _).trans (hb2.mono (by simp)), ?_, ?_⟩
      · rw [hb2.cell (p := ⟨w1.heap.size, 5, none⟩) (by simp)]; simp [go_sem]
      · have := hb2.size; simp at this; omega
    clear hb2
    go_wp2_with fail
    refine (swap_any s _ hss).mono ?_
    rintro e w3 ⟨rfl, hb3⟩
    have C3 : Hid (Below w1.heap.size w1 w3 ∧ w3.cell? ⟨w1.heap.size, 5, none⟩ = some (.slice a2 fs.length c2)) := by
      refine ⟨C2.out.1.trans (hb3.mono C2.out.1.size), ?_⟩
      rw [hb3.cell (p := ⟨w1.heap.size, 5, none⟩) C2.out.2.2]; exact C2.out.2.1
    clear C2 hb3
    go_wp2_with fail
    refine (value_any w1.heap.size a2 c2 fs (swapS s) k0 _ (HA.out _ C3.out.1).2.1 (by omega) (by rw [size_swapS]; omega) (isFirst_swap H.out.2.1) C3.out.2).mono ?_
    rw [HO.out.2.2.2, decide_eq_true hlt]
    rintro e w4 ⟨rfl, hb4⟩
    have C4 : Hid (Below w1.heap.size w1 w4) := C3.out.1.trans (hb4.mono C3.out.1.size)
    clear C3 hb4
    go_wp2_with fail
    refine (first_any _ _ fs s k0 k0 _ (HA.out _ C4.out).2.2 hl hs H.out.2.1 (.inl ⟨hlt, rfl⟩)).mono ?_
    rintro e w5 ⟨rfl, q, rfl⟩
    have B4 : Hid (Below w.heap.size w w4) := (HA.out _ C4.out).1
    obtain ⟨hc0, hc1⟩ := HO.out.1.below HO.out.2.2.1 B4.out
    simp only at hc0 hc1
    have l1 : (k0 : Int) < (fs.length : Int) := by omega
    go_wp2_with fail
    refine (same_any va vc vb true _ (HO.out.2.1.2.1.below (B4.out.trans (below_draws _ _ _))) HO.out.2.1.2.2.2).mono ?_
    rintro e w6 ⟨rfl, q2, rfl⟩
    go_wp2_with fail
    refine (same_any va vc vb true _ (HO.out.2.1.2.1.below (B4.out.trans (below_draws _ _ _))) HO.out.2.1.2.2.2).mono ?_
    rintro e w7 ⟨rfl, q3, rfl⟩
    go_wp2
    go_ret
    exact ⟨rfl, B4.out.trans (below_draws _ _ _)⟩
  · obtain rfl : k0 = fs.length := by omega
    have HV : Hid (valOf fs fs.length = .slice none 0 0) := by show valOf _ _ = _; unfold valOf; rw [if_neg (Nat.lt_irrefl _)]
    go_wp2_with fail
    refine (value_any w1.heap.size a2 c2 fs s fs.length _ (HA.out _ ((Below.refl _ _).alloc (Nat.le_refl _) _)).2.1 (by omega) hs H.out.2.1 (by simp [go_sem])).mono ?_
    rw [HV.out, decide_eq_false (Nat.lt_irrefl _)]
    rintro e w2 ⟨rfl, hb2⟩
    have C2 : Hid (Below w1.heap.size w1 w2 ∧ w2.cell? ⟨w1.heap.size, 5, none⟩ = some (.slice a2 fs.length c2) ∧ w1.heap.size < w2.heap.size) := by
      refine ⟨((Below.refl _ _).alloc (Nat.le_refl _) _).trans (hb2.mono (by simp)), ?_, ?_⟩
      · rw [hb2.cell (p := ⟨w1.heap.size, 5, none⟩) (by simp)]; simp [go_sem]
      · have := hb2.size; simp at this; omega
    clear hb2
    go_wp2_with fail
    refine (swap_any s _ hss).mono ?_
    rintro e w3 ⟨rfl, hb3⟩
    have C3 : Hid (Below w1.heap.size w1 w3 ∧ w3.cell? ⟨w1.heap.size, 5, none⟩ = some (.slice a2 fs.length c2)) := by
      refine ⟨C2.out.1.trans (hb3.mono C2.out.1.size), ?_⟩
      rw [hb3.cell (p := ⟨w1.heap.size, 5, none⟩) C2.out.2.2]; exact C2.out.2.1
    clear C2 hb3
    go_wp2_with fail
    refine (value_any w1.heap.size a2 c2 fs (swapS s) fs.length _ (HA.out _ C3.out.1).2.1 (by omega) (by rw [size_swapS]; omega) (isFirst_swap H.out.2.1) C3.out.2).mono ?_
    rw [HV.out, decide_eq_false (Nat.lt_irrefl _)]
    rintro e w4 ⟨rfl, hb4⟩
    have C4 : Hid (Below w1.heap.size w1 w4) := C3.out.1.trans (hb4.mono C3.out.1.size)
    clear C3 hb4
    go_wp2_with fail
    refine (first_any _ _ fs s fs.length (-1) _ (HA.out _ C4.out).2.2 hl hs H.out.2.1 (.inr ⟨rfl, rfl⟩)).mono ?_
    rintro e w5 ⟨rfl, q, rfl⟩
    have B4 : Hid (Below w.heap.size w w4) := (HA.out _ C4.out).1
    go_wp2_with fail
    refine (same_any none 0 [] false _ (fun i hi => absurd hi (Nat.not_lt_zero _)) (by simp)).mono ?_
    rintro e w6 ⟨rfl, q2, rfl⟩
    go_wp2_with fail
    refine (same_any none 0 [] false _ (fun i hi => absurd hi (Nat.not_lt_zero _)) (by simp)).mono ?_
    rintro e w7 ⟨rfl, q3, rfl⟩
    go_wp2
    go_ret
    exact ⟨rfl, B4.out.trans (below_draws _ _ _)⟩
end Go.Proofs.Qxb6629082a
