import Derived.Test.Qxb6629082aWb
namespace Go.Proofs.Qxb6629082a
open Go.RowKit
set_option linter.unusedVariables false

/-- One field as it lies: where its name and its value lie, their spare room, their bytes. -/
structure Fld where
  na : Option Addr
  nc : Nat
  nm : List Int
  va : Option Addr
  vc : Nat
  vb : List Int
def Fld.no : Fld := ⟨none, 0, [], none, 0, []⟩
def FldAt (w : World) (b o : Nat) (f : Fld) : Prop :=
  w.cell? ⟨b, o, none⟩ = some (.slice f.na f.nm.length f.nc) ∧ w.cell? ⟨b, o + 1, none⟩ = some (.slice f.va f.vb.length f.vc)
def FldOk (w : World) (f : Fld) : Prop :=
  By w f.na f.nm ∧ By w f.va f.vb ∧ f.nm.length ≤ 9223372036854775807 ∧ f.vb.length ≤ 9223372036854775807
/-- The fields of a slice: nothing is said of an empty one. -/
def Fields (w : World) (a : Option Addr) (fs : List Fld) : Prop :=
  ∀ i, i < fs.length → ∃ b off, a = some ⟨b, off, none⟩ ∧ b < w.heap.size ∧ FldAt w b (off + i * 2) (fs.getD i Fld.no) ∧ FldOk w (fs.getD i Fld.no)
theorem FldOk.below {w w' : World} {f : Fld} (h : FldOk w f) (hb : Below w.heap.size w w') : FldOk w' f := ⟨h.1.below hb, h.2.1.below hb, h.2.2⟩
theorem FldAt.below {w w' : World} {b o : Nat} {f : Fld} (h : FldAt w b o f) (hlt : b < w.heap.size) (hb : Below w.heap.size w w') : FldAt w' b o f :=
  ⟨by rw [hb.cell (p := ⟨b, o, none⟩) hlt]; exact h.1, by rw [hb.cell (p := ⟨b, o + 1, none⟩) hlt]; exact h.2⟩
theorem Fields.below {w w' : World} {a : Option Addr} {fs : List Fld} (h : Fields w a fs) (hb : Below w.heap.size w w') : Fields w' a fs := by
  intro i hi
  obtain ⟨b, off, e, hlt, h1, h2⟩ := h i hi
  exact ⟨b, off, e, Nat.lt_of_lt_of_le hlt hb.size, h1.below hlt hb, h2.below hb⟩

/-- k is the first field that is so named; the number of fields where none is. -/
def IsFirst (fs : List Fld) (z : List Int) (k : Nat) : Prop :=
  k ≤ fs.length ∧ (∀ j, j < k → ¬ Pl.Fold (fs.getD j Fld.no).nm z) ∧ (k < fs.length → Pl.Fold (fs.getD k Fld.no).nm z)
theorem isFirst_ex (fs : List Fld) (z : List Int) : ∃ k, IsFirst fs z k := by
  have : ∀ n, n ≤ fs.length → (∀ j, j < n → ¬ Pl.Fold (fs.getD j Fld.no).nm z) ∨ ∃ k, IsFirst fs z k := by
    intro n
    induction n with
    | zero => intro _; exact .inl fun j hj => absurd hj (Nat.not_lt_zero _)
    | succ n ih =>
      intro hn
      rcases ih (by omega) with h | h
      · by_cases hf : Pl.Fold (fs.getD n Fld.no).nm z
        · exact .inr ⟨n, by omega, h, fun _ => hf⟩
        · refine .inl fun j hj => ?_
          by_cases e : j = n
          · subst e; exact hf
          · exact h j (by omega)
      · exact .inr h
  rcases this fs.length (Nat.le_refl _) with h | h
  · exact ⟨fs.length, Nat.le_refl _, h, fun h => absurd h (Nat.lt_irrefl _)⟩
  · exact h

theorem nameIs_yes (a : Option Addr) (cap : Nat) (bs : List Int) (s : ByteArray) (w : World) (h : By w a bs) (hl : bs.length ≤ 9223372036854775807) (hs : s.size ≤ 9223372036854775807) (hf : Pl.Fold bs (Pl.str s)) :
    Calls Try.prog 15 #[.slice a bs.length cap, .string s] w fun e w' => e = .returned (.bool true) ∧ ∃ q, w' = w.drewN q := by
  refine (nameIs_any a cap bs s w h hl hs).mono ?_
  rintro e w' ⟨r, rfl, hr, hw⟩
  exact ⟨ret_bool (hr.2 hf), hw⟩
theorem nameIs_no (a : Option Addr) (cap : Nat) (bs : List Int) (s : ByteArray) (w : World) (h : By w a bs) (hl : bs.length ≤ 9223372036854775807) (hs : s.size ≤ 9223372036854775807) (hf : ¬ Pl.Fold bs (Pl.str s)) :
    Calls Try.prog 15 #[.slice a bs.length cap, .string s] w fun e w' => e = .returned (.bool false) ∧ ∃ q, w' = w.drewN q := by
  refine (nameIs_any a cap bs s w h hl hs).mono ?_
  rintro e w' ⟨r, rfl, hr, hw⟩
  exact ⟨ret_bool (by cases r; rfl; exact absurd (hr.1 rfl) hf), hw⟩
theorem foldEq_yes (a : Option Addr) (cap : Nat) (bs : List Int) (s : ByteArray) (w : World) (h : By w a bs) (hl : bs.length ≤ 9223372036854775807) (hs : s.size ≤ 9223372036854775807) (hf : Pl.Fold bs (Pl.str s)) :
    Calls Try.prog 13 #[.slice a bs.length cap, .string s] w fun e w' => e = .returned (.bool true) ∧ ∃ q, w' = w.drewN q := by
  refine (foldEq_any a cap bs s w h hl hs).mono ?_
  rintro e w' ⟨r, rfl, hr, hw⟩
  exact ⟨ret_bool (hr.2 hf), hw⟩
theorem foldEq_no (a : Option Addr) (cap : Nat) (bs : List Int) (s : ByteArray) (w : World) (h : By w a bs) (hl : bs.length ≤ 9223372036854775807) (hs : s.size ≤ 9223372036854775807) (hf : ¬ Pl.Fold bs (Pl.str s)) :
    Calls Try.prog 13 #[.slice a bs.length cap, .string s] w fun e w' => e = .returned (.bool false) ∧ ∃ q, w' = w.drewN q := by
  refine (foldEq_any a cap bs s w h hl hs).mono ?_
  rintro e w' ⟨r, rfl, hr, hw⟩
  exact ⟨ret_bool (by cases r; rfl; exact absurd (hr.1 rfl) hf), hw⟩

/-- zzFirst: the first field that is so named, or -1. -/
theorem first_any (a : Option Addr) (cap : Nat) (fs : List Fld) (s : ByteArray) (k0 : Nat) (r : Int) (w : World) (h : Fields w a fs) (hl : fs.length ≤ 65536) (hs : s.size ≤ 9223372036854775807) (hk0 : IsFirst fs (Pl.str s) k0)
    (hr : (k0 < fs.length ∧ r = k0) ∨ (k0 = fs.length ∧ r = -1)) :
    Calls Try.prog 10 #[.slice a fs.length cap, .string s] w fun e w' => e = .returned (.int .i64 r) ∧ ∃ q, w' = w.drewN q := by
  have H : Hid (Fields w a fs ∧ IsFirst fs (Pl.str s) k0 ∧ ((k0 < fs.length ∧ r = k0) ∨ (k0 = fs.length ∧ r = -1))) := ⟨h, hk0, hr⟩
  have hkl := hk0.1
  clear h hk0 hr
  go_enter Try.func10, Try.ntmps10
  go_wp2
  go_loopw [5] (fun i wr => ∃ k q : Nat, k ≤ k0 ∧ i = .int .i64 k ∧ wr = w.drewN q) (fun i _ => fs.length - (intOf i).toNat)
  case atStart => exact ⟨0, 0, Nat.zero_le _, rfl, rfl⟩
  case round =>
    obtain ⟨k, q, hk, rfl, rfl⟩ := hrel
    by_cases hlt : k < fs.length
    · obtain ⟨b, off, rfl, hb, hat, hok⟩ := H.out.1 k hlt
      have hno := H.out.2.1.2.1 k
      have hyes := H.out.2.1.2.2
      generalize hf : fs.getD k Fld.no = f at hat hok hno
      obtain ⟨na, nc, nm, va, vc, vb⟩ := f
      obtain ⟨hc0, hc1⟩ := hat
      simp only at hc0 hc1 hno
      have HO : Hid (FldOk w ⟨na, nc, nm, va, vc, vb⟩) := hok
      by_cases hkk : k < k0
      · have HF : Hid (¬ Pl.Fold nm (Pl.str s)) := hno hkk
        clear hno hyes hok hf
        go_wp2_with (go_at_call 13; refine (foldEq_no _ _ _ _ _ (HO.out.1.below (below_draws _ _ _)) HO.out.2.2.1 hs HF.out).mono ?_; rintro e w' ⟨rfl, q2, hw⟩; obtain rfl := hw)
        go_roundw
        case rel => exact ⟨k + 1, q + q2, by omega, by go_num, by simp⟩
        case measure => simp [intOf]; omega
      · obtain rfl : k = k0 := by omega
        have HF : Hid (Pl.Fold nm (Pl.str s)) := by have := hyes hlt; rwa [hf] at this
        have hrk : r = (k : Int) := by rcases H.out.2.2 with h | h <;> omega
        clear hno hyes hok hf H
        go_wp2_with (go_at_call 13; refine (foldEq_yes _ _ _ _ _ (HO.out.1.below (below_draws _ _ _)) HO.out.2.2.1 hs HF.out).mono ?_; rintro e w' ⟨rfl, q2, hw⟩; obtain rfl := hw)
        go_ret
        exact ⟨ret_int hrk.symm, q + q2, by simp⟩
    · have hrk : r = -1 := by rcases H.out.2.2 with h | h <;> omega
      clear H
      go_wp2
      go_ret
      exact ⟨ret_int hrk.symm, q, rfl⟩
end Go.Proofs.Qxb6629082a
