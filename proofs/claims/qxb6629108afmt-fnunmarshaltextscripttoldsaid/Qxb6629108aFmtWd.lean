import Derived.Test.Qxb6629108aFmtWc
import Derived.Deep.QuietTactic
import Derived.BigQuiet
import Derived.Deep.Draws
namespace Go.Proofs.Qxb6629108aFmt
open Go.RowKit Go.Extern.Stop Go.Stop Go.Extern
set_option linter.unusedVariables false

theorem below_drewN {B : Nat} {a w : World} (h : Below B a w) (n : Nat) : Below B a (w.drewN n) := h.trans ⟨rfl, rfl, rfl, Nat.le_refl _, fun _ _ => rfl⟩
theorem offQ_yes (s : ByteArray) (w : World) (h : Off s) : Calls Tryf.prog 7 #[.string s] w fun e w' => e = .returned (.bool true) ∧ w' = w := (offered_yes s w h).mono fun _ _ h => ⟨h.1, h.2.symm⟩
theorem offQ_no (s : ByteArray) (w : World) (h : ¬ Off s) : Calls Tryf.prog 7 #[.string s] w fun e w' => e = .returned (.bool false) ∧ w' = w := (offered_no s w h).mono fun _ _ h => ⟨h.1, h.2.symm⟩
theorem bytes8_yes (s : ByteArray) (a : Option Addr) (la ca : Nat) (b : Option Addr) (lb cb : Nat) (w : World) (h : s.size + la + lb ≤ 1048576) :
    Calls Tryf.prog 8 #[.string s, .slice a la ca, .slice b lb cb] w fun e w' => e = .returned (.bool true) ∧ w = w' := by
  go_enter Tryf.func8, Tryf.ntmps8
  go_wp2
  go_ret
  exact ⟨rfl, rfl⟩
theorem bytes8_no (s : ByteArray) (a : Option Addr) (la ca : Nat) (b : Option Addr) (lb cb : Nat) (w : World) (h : ¬ s.size + la + lb ≤ 1048576) (h1 : s.size ≤ 9223372036854775807) (h2 : la ≤ 9223372036854775807) (h3 : lb ≤ 9223372036854775807) :
    Calls Tryf.prog 8 #[.string s, .slice a la ca, .slice b lb cb] w fun e w' => e = .returned (.bool false) ∧ w = w' := by
  go_enter Tryf.func8, Tryf.ntmps8
  go_wp2
  all_goals first | (go_ret; exact ⟨rfl, rfl⟩) | (exfalso; omega)

set_option maxHeartbeats 3200000 in
theorem script_any (F : Interp) (st sa sb : ByteArray) (a : Option Addr) (ca : Nat) (b : Option Addr) (cb : Nat) (w : World) (hF : F.answers w.tape) (ha : By w a sa) (hb : By w b sb) (h1 : st.size ≤ 9223372036854775807) (h2 : sa.size ≤ 9223372036854775807) (h3 : sb.size ≤ 9223372036854775807) :
    Calls Tryf.prog 4 #[.string st, .slice a sa.size ca, .slice b sb.size cb] w fun e w' => e = .returned (.bool true) ∧ Below w.heap.size w w' := by
  by_cases g0 : st.size + sa.size + sb.size ≤ 1048576
  · by_cases g1 : st.size ≤ 262144
    · by_cases g2 : sa.size ≤ 262144
      · by_cases g3 : sb.size ≤ 262144
        · have hcva := conv_any ha ca 9 Tryf.underlying9
          have hcvb := conv_any hb cb 9 Tryf.underlying9
          have H : Hid (By w a sa ∧ By w b sb ∧ F.answers w.tape) := ⟨ha, hb, hF⟩
          clear ha hb hF
          by_cases o1 : Off sa
          · have O1 : Hid (Off sa) := o1
            clear o1
            by_cases o2 : Off sb
            · have O2 : Hid (Off sb) := o2
              clear o2
              go_enter Tryf.func4, Tryf.ntmps4
              go_wp2_with (go_at_call 8; refine (bytes8_yes _ _ _ _ _ _ _ _ g0).mono ?_; rintro e w' ⟨rfl, hw⟩; obtain rfl := hw)
              refine (unm_yes w.heap.size ca a sa st _ (H.out.1.below ((Below.refl _ _).alloc (Nat.le_refl _) _)) O1.out (by simp) (by simp [go_sem]) (by simp [go_sem])).mono ?_
              rintro e w2 ⟨rfl, hb2, hc2, hf2⟩
              have C2 : Hid (Below w.heap.size w w2 ∧ w.heap.size < w2.heap.size) := ⟨((Below.refl _ _).alloc (Nat.le_refl _) _).trans hb2, by have := hb2.size; simp at this; omega⟩
              have T2 : Hid (F.answers w2.tape) := by show F.answers _; rw [C2.out.1.tape]; exact H.out.2.2
              clear hb2 hcva hcvb
              go_wp2_with fail
              refine (unm_yes w.heap.size cb b sb sa _ (H.out.2.1.below C2.out.1) O2.out C2.out.2 hc2 hf2).mono ?_
              rintro e w3 ⟨rfl, hb3, hc3, hf3⟩
              have B3 : Hid (Below w.heap.size w w3) := C2.out.1.trans hb3
              clear hb3 hc2 hf2
              go_wp2_with fail
              refine (offered_yes _ _ O1.out).mono ?_
              rintro e w4 ⟨rfl, hw⟩
              obtain rfl := hw
              go_wp2_with fail
              refine (offered_yes _ _ O2.out).mono ?_
              rintro e w4 ⟨rfl, hw⟩
              obtain rfl := hw
              go_wp2_with fail
              go_quiet ((go_at_call 7; first | (refine Calls.quiet_of_same (offQ_yes _ _ ?_); first | with_reducible exact O1.out | with_reducible exact O2.out) | (refine Calls.quiet_of_same (offQ_no _ _ ?_); first | with_reducible exact O1.out | with_reducible exact O2.out)))
              go_wp2
              go_ret
              exact ⟨by simp, below_drewN B3.out _⟩
            · have O2 : Hid (¬ Off sb) := o2
              clear o2
              go_enter Tryf.func4, Tryf.ntmps4
              go_wp2_with (go_at_call 8; refine (bytes8_yes _ _ _ _ _ _ _ _ g0).mono ?_; rintro e w' ⟨rfl, hw⟩; obtain rfl := hw)
              refine (unm_yes w.heap.size ca a sa st _ (H.out.1.below ((Below.refl _ _).alloc (Nat.le_refl _) _)) O1.out (by simp) (by simp [go_sem]) (by simp [go_sem])).mono ?_
              rintro e w2 ⟨rfl, hb2, hc2, hf2⟩
              have C2 : Hid (Below w.heap.size w w2 ∧ w.heap.size < w2.heap.size) := ⟨((Below.refl _ _).alloc (Nat.le_refl _) _).trans hb2, by have := hb2.size; simp at this; omega⟩
              have T2 : Hid (F.answers w2.tape) := by show F.answers _; rw [C2.out.1.tape]; exact H.out.2.2
              clear hb2 hcva hcvb
              go_wp2_with fail
              refine (unm_no F w.heap.size cb b sb sa _ (by exact T2.out) (H.out.2.1.below C2.out.1) O2.out C2.out.2 hc2 hf2).mono ?_
              rintro e w3 ⟨⟨x2, rfl⟩, hb3, hc3, hf3⟩
              have B3 : Hid (Below w.heap.size w w3) := C2.out.1.trans hb3
              clear hb3 hc2 hf2
              go_wp2_with fail
              refine (offered_yes _ _ O1.out).mono ?_
              rintro e w4 ⟨rfl, hw⟩
              obtain rfl := hw
              go_wp2_with fail
              refine (offered_no _ _ O2.out).mono ?_
              rintro e w4 ⟨rfl, hw⟩
              obtain rfl := hw
              go_wp2_with fail
              go_quiet ((go_at_call 7; first | (refine Calls.quiet_of_same (offQ_yes _ _ ?_); first | with_reducible exact O1.out | with_reducible exact O2.out) | (refine Calls.quiet_of_same (offQ_no _ _ ?_); first | with_reducible exact O1.out | with_reducible exact O2.out)))
              go_wp2
              go_ret
              exact ⟨by simp, below_drewN B3.out _⟩
          · have O1 : Hid (¬ Off sa) := o1
            clear o1
            by_cases o2 : Off sb
            · have O2 : Hid (Off sb) := o2
              clear o2
              go_enter Tryf.func4, Tryf.ntmps4
              go_wp2_with (go_at_call 8; refine (bytes8_yes _ _ _ _ _ _ _ _ g0).mono ?_; rintro e w' ⟨rfl, hw⟩; obtain rfl := hw)
              refine (unm_no F w.heap.size ca a sa st _ (by exact H.out.2.2) (H.out.1.below ((Below.refl _ _).alloc (Nat.le_refl _) _)) O1.out (by simp) (by simp [go_sem]) (by simp [go_sem])).mono ?_
              rintro e w2 ⟨⟨x, rfl⟩, hb2, hc2, hf2⟩
              have C2 : Hid (Below w.heap.size w w2 ∧ w.heap.size < w2.heap.size) := ⟨((Below.refl _ _).alloc (Nat.le_refl _) _).trans hb2, by have := hb2.size; simp at this; omega⟩
              have T2 : Hid (F.answers w2.tape) := by show F.answers _; rw [C2.out.1.tape]; exact H.out.2.2
              clear hb2 hcva hcvb
              go_wp2_with fail
              refine (unm_yes w.heap.size cb b sb st _ (H.out.2.1.below C2.out.1) O2.out C2.out.2 hc2 hf2).mono ?_
              rintro e w3 ⟨rfl, hb3, hc3, hf3⟩
              have B3 : Hid (Below w.heap.size w w3) := C2.out.1.trans hb3
              clear hb3 hc2 hf2
              go_wp2_with fail
              refine (offered_no _ _ O1.out).mono ?_
              rintro e w4 ⟨rfl, hw⟩
              obtain rfl := hw
              go_wp2_with fail
              refine (offered_yes _ _ O2.out).mono ?_
              rintro e w4 ⟨rfl, hw⟩
              obtain rfl := hw
              go_wp2_with fail
              go_quiet ((go_at_call 7; first | (refine Calls.quiet_of_same (offQ_yes _ _ ?_); first | with_reducible exact O1.out | with_reducible exact O2.out) | (refine Calls.quiet_of_same (offQ_no _ _ ?_); first | with_reducible exact O1.out | with_reducible exact O2.out)))
              go_wp2
              go_ret
              exact ⟨by simp, below_drewN B3.out _⟩
            · have O2 : Hid (¬ Off sb) := o2
              clear o2
              go_enter Tryf.func4, Tryf.ntmps4
              go_wp2_with (go_at_call 8; refine (bytes8_yes _ _ _ _ _ _ _ _ g0).mono ?_; rintro e w' ⟨rfl, hw⟩; obtain rfl := hw)
              refine (unm_no F w.heap.size ca a sa st _ (by exact H.out.2.2) (H.out.1.below ((Below.refl _ _).alloc (Nat.le_refl _) _)) O1.out (by simp) (by simp [go_sem]) (by simp [go_sem])).mono ?_
              rintro e w2 ⟨⟨x, rfl⟩, hb2, hc2, hf2⟩
              have C2 : Hid (Below w.heap.size w w2 ∧ w.heap.size < w2.heap.size) := ⟨((Below.refl _ _).alloc (Nat.le_refl _) _).trans hb2, by have := hb2.size; simp at this; omega⟩
              have T2 : Hid (F.answers w2.tape) := by show F.answers _; rw [C2.out.1.tape]; exact H.out.2.2
              clear hb2 hcva hcvb
              go_wp2_with fail
              refine (unm_no F w.heap.size cb b sb st _ (by exact T2.out) (H.out.2.1.below C2.out.1) O2.out C2.out.2 hc2 hf2).mono ?_
              rintro e w3 ⟨⟨x2, rfl⟩, hb3, hc3, hf3⟩
              have B3 : Hid (Below w.heap.size w w3) := C2.out.1.trans hb3
              clear hb3 hc2 hf2
              go_wp2_with fail
              refine (offered_no _ _ O1.out).mono ?_
              rintro e w4 ⟨rfl, hw⟩
              obtain rfl := hw
              go_wp2_with fail
              refine (offered_no _ _ O2.out).mono ?_
              rintro e w4 ⟨rfl, hw⟩
              obtain rfl := hw
              go_wp2_with fail
              go_quiet ((go_at_call 7; first | (refine Calls.quiet_of_same (offQ_yes _ _ ?_); first | with_reducible exact O1.out | with_reducible exact O2.out) | (refine Calls.quiet_of_same (offQ_no _ _ ?_); first | with_reducible exact O1.out | with_reducible exact O2.out)))
              go_wp2
              go_ret
              exact ⟨by simp, below_drewN B3.out _⟩
        all_goals
          go_enter Tryf.func4, Tryf.ntmps4
          go_wp2_with (go_at_call 8; refine (bytes8_yes _ _ _ _ _ _ _ _ g0).mono ?_; rintro e w' ⟨rfl, hw⟩; obtain rfl := hw)
          go_ret
          exact ⟨rfl, Below.refl _ _⟩
      all_goals
        go_enter Tryf.func4, Tryf.ntmps4
        go_wp2_with (go_at_call 8; refine (bytes8_yes _ _ _ _ _ _ _ _ g0).mono ?_; rintro e w' ⟨rfl, hw⟩; obtain rfl := hw)
        go_ret
        exact ⟨rfl, Below.refl _ _⟩
    all_goals
      go_enter Tryf.func4, Tryf.ntmps4
      go_wp2_with (go_at_call 8; refine (bytes8_yes _ _ _ _ _ _ _ _ g0).mono ?_; rintro e w' ⟨rfl, hw⟩; obtain rfl := hw)
      go_ret
      exact ⟨rfl, Below.refl _ _⟩
  · go_enter Tryf.func4, Tryf.ntmps4
    go_wp2_with (go_at_call 8; refine (bytes8_no _ _ _ _ _ _ _ _ g0 h1 h2 h3).mono ?_; rintro e w' ⟨rfl, hw⟩; obtain rfl := hw)
    go_ret
    exact ⟨rfl, Below.refl _ _⟩
end Go.Proofs.Qxb6629108aFmt
