import Derived.Test.Qxb6629108aFmtWb
namespace Go.Proofs.Qxb6629108aFmt
open Go.RowKit Go.Extern.Stop Go.Stop Go.Extern
set_option linter.unusedVariables false

theorem bytes5_yes (s : ByteArray) (a : Option Addr) (len cap : Nat) (w : World) (h : s.size + len ≤ 1048576) :
    Calls Tryf.prog 5 #[.string s, .slice a len cap] w fun e w' => e = .returned (.bool true) ∧ w = w' := by
  go_enter Tryf.func5, Tryf.ntmps5
  go_wp2
  go_ret
  exact ⟨rfl, rfl⟩
theorem bytes5_no (s : ByteArray) (a : Option Addr) (len cap : Nat) (w : World) (h : ¬ s.size + len ≤ 1048576) (h1 : s.size ≤ 9223372036854775807) (h2 : len ≤ 9223372036854775807) :
    Calls Tryf.prog 5 #[.string s, .slice a len cap] w fun e w' => e = .returned (.bool false) ∧ w = w' := by
  go_enter Tryf.func5, Tryf.ntmps5
  go_wp2
  all_goals first | (go_ret; exact ⟨rfl, rfl⟩) | (exfalso; omega)

set_option maxHeartbeats 3200000 in
theorem round_any (F : Interp) (st s : ByteArray) (a : Option Addr) (cap : Nat) (w : World) (hF : F.answers w.tape) (h : By w a s) (h1 : st.size ≤ 9223372036854775807) (h2 : s.size ≤ 9223372036854775807) :
    Calls Tryf.prog 3 #[.string st, .slice a s.size cap] w fun e w' => e = .returned (.bool true) ∧ Below w.heap.size w w' := by
  by_cases g0 : st.size + s.size ≤ 1048576
  · by_cases g1 : st.size ≤ 524288
    · by_cases g2 : s.size ≤ 524288
      · have hcv := conv_any h cap 9 Tryf.underlying9
        have H : Hid (By w a s ∧ F.answers w.tape) := ⟨h, hF⟩
        clear h hF
        by_cases o1 : Off s
        · have O1 : Hid (Off s) := o1
          have O2 : Hid (Off s) := o1
          clear o1
          go_enter Tryf.func3, Tryf.ntmps3
          go_wp2_with (go_at_call 5; refine (bytes5_yes _ _ _ _ _ g0).mono ?_; rintro e w' ⟨rfl, hw⟩; obtain rfl := hw)
          refine (unm_yes w.heap.size cap a s st _ (H.out.1.below ((Below.refl _ _).alloc (Nat.le_refl _) _)) O1.out (by simp) (by simp [go_sem]) (by simp [go_sem])).mono ?_
          rintro e w2 ⟨rfl, hb2, hc2, hf2⟩
          have C2 : Hid (Below w.heap.size w w2 ∧ w.heap.size < w2.heap.size) := ⟨((Below.refl _ _).alloc (Nat.le_refl _) _).trans hb2, by have := hb2.size; simp at this; omega⟩
          have hlt : w.heap.size < w2.heap.size := C2.out.2
          clear hb2 hcv
          obtain ⟨cap2, o2, hcb, hby⟩ := conv_back (w2.alloc (.cells #[.string ⟨#[]⟩] 24)) s
          have BY : Hid (By ((w2.alloc (.cells #[.string ⟨#[]⟩] 24)).alloc o2).drew (some ⟨(w2.alloc (.cells #[.string ⟨#[]⟩] 24)).heap.size, 0, none⟩) s) := hby
          have T2 : Hid (F.answers w2.tape) := by show F.answers _; rw [C2.out.1.tape]; exact H.out.2
          have K4 : Hid (((w2.alloc (.cells #[.string ⟨#[]⟩] 24)).alloc o2).drew.cell? ⟨w2.heap.size, 0, none⟩ = some (.string ⟨#[]⟩) ∧ ((w2.alloc (.cells #[.string ⟨#[]⟩] 24)).alloc o2).drew.frozen? ⟨w2.heap.size, 0, none⟩ = false) := by
            refine ⟨?_, ?_⟩
            · show ((w2.alloc (.cells #[.string ⟨#[]⟩] 24)).alloc o2).cell? _ = _
              rw [World.cell?_alloc_lt _ _ _ (by simp)]; simp [go_sem]
            · show ((w2.alloc (.cells #[.string ⟨#[]⟩] 24)).alloc o2).frozen? _ = _
              rw [World.frozen?_alloc_old _ _ _ (by simp)]; simp [go_sem]
          clear hby
          go_wp2_with fail
          refine (unm_yes w2.heap.size cap2 _ s ⟨#[]⟩ _ (by simpa using BY.out) O2.out (by simp; omega) K4.out.1 K4.out.2).mono ?_
          rintro e w5 ⟨rfl, hb5, hc5, hf5⟩
          have B5 : Hid (Below w2.heap.size w2 w5) := ((((Below.refl _ _).alloc (Nat.le_refl _) _).alloc (by simp) _).drew).trans hb5
          have hl5 : w5.cell? ⟨w.heap.size, 0, none⟩ = some (.string s) := by rw [B5.out.cell (p := ⟨w.heap.size, 0, none⟩) hlt]; exact hc2
          clear hb5 hcb
          go_wp2_with fail
          refine (offered_yes _ _ O1.out).mono ?_
          rintro e w6 ⟨rfl, hw⟩
          obtain rfl := hw
          go_wp2
          go_ret
          exact ⟨rfl, C2.out.1.trans (B5.out.mono (Nat.le_of_lt hlt))⟩
        · have O1 : Hid (¬ Off s) := o1
          clear o1
          by_cases o2 : Off st
          · have O2 : Hid (Off st) := o2
            clear o2
            go_enter Tryf.func3, Tryf.ntmps3
            go_wp2_with (go_at_call 5; refine (bytes5_yes _ _ _ _ _ g0).mono ?_; rintro e w' ⟨rfl, hw⟩; obtain rfl := hw)
            refine (unm_no F w.heap.size cap a s st _ (by exact H.out.2) (H.out.1.below ((Below.refl _ _).alloc (Nat.le_refl _) _)) O1.out (by simp) (by simp [go_sem]) (by simp [go_sem])).mono ?_
            rintro e w2 ⟨⟨x, rfl⟩, hb2, hc2, hf2⟩
            have C2 : Hid (Below w.heap.size w w2 ∧ w.heap.size < w2.heap.size) := ⟨((Below.refl _ _).alloc (Nat.le_refl _) _).trans hb2, by have := hb2.size; simp at this; omega⟩
            have hlt : w.heap.size < w2.heap.size := C2.out.2
            clear hb2 hcv
            obtain ⟨cap2, o2, hcb, hby⟩ := conv_back (w2.alloc (.cells #[.string ⟨#[]⟩] 24)) st
            have BY : Hid (By ((w2.alloc (.cells #[.string ⟨#[]⟩] 24)).alloc o2).drew (some ⟨(w2.alloc (.cells #[.string ⟨#[]⟩] 24)).heap.size, 0, none⟩) st) := hby
            have T2 : Hid (F.answers w2.tape) := by show F.answers _; rw [C2.out.1.tape]; exact H.out.2
            have K4 : Hid (((w2.alloc (.cells #[.string ⟨#[]⟩] 24)).alloc o2).drew.cell? ⟨w2.heap.size, 0, none⟩ = some (.string ⟨#[]⟩) ∧ ((w2.alloc (.cells #[.string ⟨#[]⟩] 24)).alloc o2).drew.frozen? ⟨w2.heap.size, 0, none⟩ = false) := by
              refine ⟨?_, ?_⟩
              · show ((w2.alloc (.cells #[.string ⟨#[]⟩] 24)).alloc o2).cell? _ = _
                rw [World.cell?_alloc_lt _ _ _ (by simp)]; simp [go_sem]
              · show ((w2.alloc (.cells #[.string ⟨#[]⟩] 24)).alloc o2).frozen? _ = _
                rw [World.frozen?_alloc_old _ _ _ (by simp)]; simp [go_sem]
            clear hby
            go_wp2_with fail
            refine (unm_yes w2.heap.size cap2 _ st ⟨#[]⟩ _ (by simpa using BY.out) O2.out (by simp; omega) K4.out.1 K4.out.2).mono ?_
            rintro e w5 ⟨rfl, hb5, hc5, hf5⟩
            have B5 : Hid (Below w2.heap.size w2 w5) := ((((Below.refl _ _).alloc (Nat.le_refl _) _).alloc (by simp) _).drew).trans hb5
            have hl5 : w5.cell? ⟨w.heap.size, 0, none⟩ = some (.string st) := by rw [B5.out.cell (p := ⟨w.heap.size, 0, none⟩) hlt]; exact hc2
            clear hb5 hcb
            go_wp2_with fail
            refine (offered_no _ _ O1.out).mono ?_
            rintro e w6 ⟨rfl, hw⟩
            obtain rfl := hw
            go_wp2_with fail
            refine (offered_yes _ _ O2.out).mono ?_
            rintro e w6 ⟨rfl, hw⟩
            obtain rfl := hw
            go_wp2
            go_ret
            exact ⟨rfl, C2.out.1.trans (B5.out.mono (Nat.le_of_lt hlt))⟩
          · have O2 : Hid (¬ Off st) := o2
            clear o2
            go_enter Tryf.func3, Tryf.ntmps3
            go_wp2_with (go_at_call 5; refine (bytes5_yes _ _ _ _ _ g0).mono ?_; rintro e w' ⟨rfl, hw⟩; obtain rfl := hw)
            refine (unm_no F w.heap.size cap a s st _ (by exact H.out.2) (H.out.1.below ((Below.refl _ _).alloc (Nat.le_refl _) _)) O1.out (by simp) (by simp [go_sem]) (by simp [go_sem])).mono ?_
            rintro e w2 ⟨⟨x, rfl⟩, hb2, hc2, hf2⟩
            have C2 : Hid (Below w.heap.size w w2 ∧ w.heap.size < w2.heap.size) := ⟨((Below.refl _ _).alloc (Nat.le_refl _) _).trans hb2, by have := hb2.size; simp at this; omega⟩
            have hlt : w.heap.size < w2.heap.size := C2.out.2
            clear hb2 hcv
            obtain ⟨cap2, o2, hcb, hby⟩ := conv_back (w2.alloc (.cells #[.string ⟨#[]⟩] 24)) st
            have BY : Hid (By ((w2.alloc (.cells #[.string ⟨#[]⟩] 24)).alloc o2).drew (some ⟨(w2.alloc (.cells #[.string ⟨#[]⟩] 24)).heap.size, 0, none⟩) st) := hby
            have T2 : Hid (F.answers w2.tape) := by show F.answers _; rw [C2.out.1.tape]; exact H.out.2
            have K4 : Hid (((w2.alloc (.cells #[.string ⟨#[]⟩] 24)).alloc o2).drew.cell? ⟨w2.heap.size, 0, none⟩ = some (.string ⟨#[]⟩) ∧ ((w2.alloc (.cells #[.string ⟨#[]⟩] 24)).alloc o2).drew.frozen? ⟨w2.heap.size, 0, none⟩ = false) := by
              refine ⟨?_, ?_⟩
              · show ((w2.alloc (.cells #[.string ⟨#[]⟩] 24)).alloc o2).cell? _ = _
                rw [World.cell?_alloc_lt _ _ _ (by simp)]; simp [go_sem]
              · show ((w2.alloc (.cells #[.string ⟨#[]⟩] 24)).alloc o2).frozen? _ = _
                rw [World.frozen?_alloc_old _ _ _ (by simp)]; simp [go_sem]
            clear hby
            go_wp2_with fail
            refine (unm_no F w2.heap.size cap2 _ st ⟨#[]⟩ _ (by exact T2.out) (by simpa using BY.out) O2.out (by simp; omega) K4.out.1 K4.out.2).mono ?_
            rintro e w5 ⟨⟨x2, rfl⟩, hb5, hc5, hf5⟩
            have B5 : Hid (Below w2.heap.size w2 w5) := ((((Below.refl _ _).alloc (Nat.le_refl _) _).alloc (by simp) _).drew).trans hb5
            have hl5 : w5.cell? ⟨w.heap.size, 0, none⟩ = some (.string st) := by rw [B5.out.cell (p := ⟨w.heap.size, 0, none⟩) hlt]; exact hc2
            clear hb5 hcb
            go_wp2_with fail
            refine (offered_no _ _ O1.out).mono ?_
            rintro e w6 ⟨rfl, hw⟩
            obtain rfl := hw
            go_wp2_with fail
            refine (offered_no _ _ O2.out).mono ?_
            rintro e w6 ⟨rfl, hw⟩
            obtain rfl := hw
            go_wp2
            go_ret
            exact ⟨rfl, C2.out.1.trans (B5.out.mono (Nat.le_of_lt hlt))⟩
      · go_enter Tryf.func3, Tryf.ntmps3
        go_wp2_with (go_at_call 5; refine (bytes5_yes _ _ _ _ _ g0).mono ?_; rintro e w' ⟨rfl, hw⟩; obtain rfl := hw)
        go_ret
        exact ⟨rfl, Below.refl _ _⟩
    · go_enter Tryf.func3, Tryf.ntmps3
      go_wp2_with (go_at_call 5; refine (bytes5_yes _ _ _ _ _ g0).mono ?_; rintro e w' ⟨rfl, hw⟩; obtain rfl := hw)
      go_ret
      exact ⟨rfl, Below.refl _ _⟩
  · go_enter Tryf.func3, Tryf.ntmps3
    go_wp2_with (go_at_call 5; refine (bytes5_no _ _ _ _ _ g0 h1 h2).mono ?_; rintro e w' ⟨rfl, hw⟩; obtain rfl := hw)
    go_ret
    exact ⟨rfl, Below.refl _ _⟩
end Go.Proofs.Qxb6629108aFmt
