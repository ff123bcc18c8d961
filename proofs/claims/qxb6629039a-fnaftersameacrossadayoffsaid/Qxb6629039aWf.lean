import Derived.Test.Qxb6629039aWe
namespace Go.Proofs.Qxb6629039a
open Go.RowKit

theorem bytes12_yes (a : Option Addr) (len cap : Nat) (d m n : Int) (w : World) (hl : len ≤ 1048576) :
    Calls Try.prog 12 #[.slice a len cap, .int .i32 d, .int .i32 m, .int .i64 n] w fun e w' => e = .returned (.bool true) ∧ w' = w := by
  go_enter Try.func12, Try.ntmps12
  go_wp2
  go_ret
  exact ⟨rfl, rfl⟩
theorem bytes12_no (a : Option Addr) (len cap : Nat) (d m n : Int) (w : World) (hl : 1048576 < len) :
    Calls Try.prog 12 #[.slice a len cap, .int .i32 d, .int .i32 m, .int .i64 n] w fun e w' => e = .returned (.bool false) ∧ w' = w := by
  go_enter Try.func12, Try.ntmps12
  go_wp2
  go_ret
  exact ⟨rfl, rfl⟩

/-- The input is none of the law's. -/
theorem across_out (a : Option Addr) (cap : Nat) (zs : List Int) (d1 d2 n : Int) (w : World) (h : Sl w a zs)
    (ho : ¬ (zs.length ≤ 65536 ∧ 1 ≤ n ∧ d1 ≤ d2 ∧ Pl.Inc zs ∧ Pl.cntBt zs d1 d2 = 0)) (hcap : zs.length ≤ maxLen) :
    Calls Try.prog 4 #[.slice a zs.length cap, .int .i32 d1, .int .i32 d2, .int .i64 n] w fun e w' => e = .returned (.bool true) ∧ Below w.heap.size w w' := by
  unfold maxLen at hcap
  by_cases h1 : zs.length ≤ 1048576
  · by_cases h2 : zs.length ≤ 65536
    · by_cases h3 : n < 1
      · clear ho
        go_enter Try.func4, Try.ntmps4
        go_wp2_with (go_at_call 12; refine (bytes12_yes _ _ _ _ _ _ _ h1).mono ?_; rintro e w' ⟨rfl, rfl⟩)
        go_ret
        exact ⟨rfl, Below.refl _ _⟩
      · by_cases h4 : d2 < d1
        · clear ho
          go_enter Try.func4, Try.ntmps4
          go_wp2_with (go_at_call 12; refine (bytes12_yes _ _ _ _ _ _ _ h1).mono ?_; rintro e w' ⟨rfl, rfl⟩)
          go_ret
          exact ⟨rfl, Below.refl _ _⟩
        · by_cases hi : Pl.Inc zs
          · have hc : Pl.cntBt zs d1 d2 ≠ 0 := fun hc => ho ⟨h2, by omega, by omega, hi, hc⟩
            obtain ⟨c, hcc⟩ : ∃ c : Int, (Pl.cntBt zs d1 d2 : Int) = c := ⟨_, rfl⟩
            have hcn : (c == 0) = false := beq_false_of_ne (by omega)
            have H : Hid (Sl w a zs ∧ Pl.Inc zs ∧ (Pl.cntBt zs d1 d2 : Int) = c) := ⟨h, hi, hcc⟩
            clear ho hi h hc hcc
            go_enter Try.func4, Try.ntmps4
            go_wp2_with (first
              | (go_at_call 12; refine (bytes12_yes _ _ _ _ _ _ _ h1).mono ?_; rintro e w' ⟨rfl, hw⟩; obtain rfl := hw.symm)
              | (go_at_call 6; refine (inc_yes _ _ _ _ H.out.1 h2 H.out.2.1).mono ?_; rintro e w' ⟨rfl, q, rfl⟩)
              | (go_at_call 11; refine (countBetween_is _ _ zs d1 d2 c _ (H.out.1.below (below_draws _ _ _)) h2 H.out.2.2).mono ?_; rintro e w' ⟨rfl, hw⟩; obtain rfl := hw.symm))
            go_ret
            exact ⟨rfl, below_draws _ _ _⟩
          · have H : Hid (Sl w a zs ∧ ¬ Pl.Inc zs) := ⟨h, hi⟩
            clear ho hi h
            go_enter Try.func4, Try.ntmps4
            go_wp2_with (first
              | (go_at_call 12; refine (bytes12_yes _ _ _ _ _ _ _ h1).mono ?_; rintro e w' ⟨rfl, hw⟩; obtain rfl := hw.symm)
              | (go_at_call 6; refine (inc_no _ _ _ _ H.out.1 h2 H.out.2).mono ?_; rintro e w' ⟨rfl, q, rfl⟩))
            go_ret
            exact ⟨rfl, below_draws _ _ _⟩
    · clear ho
      go_enter Try.func4, Try.ntmps4
      go_wp2_with (go_at_call 12; refine (bytes12_yes _ _ _ _ _ _ _ h1).mono ?_; rintro e w' ⟨rfl, rfl⟩)
      go_ret
      exact ⟨rfl, Below.refl _ _⟩
  · clear ho
    go_enter Try.func4, Try.ntmps4
    go_wp2_with (go_at_call 12; refine (bytes12_no _ _ _ _ _ _ _ (by omega)).mono ?_; rintro e w' ⟨rfl, rfl⟩)
    go_ret
    exact ⟨rfl, Below.refl _ _⟩

theorem across_no (a : Option Addr) (cap : Nat) (zs : List Int) (d1 d2 n : Int) (w : World) (h : Sl w a zs) (hl : zs.length ≤ 65536) (hn : 1 ≤ n) (hd : d1 ≤ d2) (hi : Pl.Inc zs) (hbt : Pl.cntBt zs d1 d2 = 0)
    (h1 : Pl.AftIs zs d1 n 0 false) (h2 : Pl.AftIs zs d2 n 0 false) (h0 : zs.length = 0 ∨ (0 < zs.length ∧ d1 < zs.getD 0 0) ∨ (0 < zs.length ∧ zs.getD 0 0 ≤ d1 ∧ (Pl.cntGt zs d1 : Int) < n)) :
    Calls Try.prog 4 #[.slice a zs.length cap, .int .i32 d1, .int .i32 d2, .int .i64 n] w fun e w' => e = .returned (.bool true) ∧ Below w.heap.size w w' := by
  have H : Hid (Sl w a zs ∧ Pl.Inc zs ∧ Pl.AftIs zs d1 n 0 false ∧ Pl.AftIs zs d2 n 0 false ∧ (zs.length = 0 ∨ (0 < zs.length ∧ d1 < zs.getD 0 0) ∨ (0 < zs.length ∧ zs.getD 0 0 ≤ d1 ∧ (Pl.cntGt zs d1 : Int) < n))) := ⟨h, hi, h1, h2, h0⟩
  have HB : Hid ((Pl.cntBt zs d1 d2 : Int) = 0) := by show _ = _; omega
  have hlb : zs.length ≤ 1048576 := by omega
  clear h hi h1 h2 h0 hbt
  go_enter Try.func4, Try.ntmps4
  go_wp2_with (first
    | (go_at_call 12; refine (bytes12_yes _ _ _ _ _ _ _ hlb).mono ?_; rintro e w' ⟨rfl, hw⟩; obtain rfl := hw.symm)
    | (go_at_call 6; refine (inc_yes _ _ _ _ H.out.1 hl H.out.2.1).mono ?_; rintro e w' ⟨rfl, q, rfl⟩)
    | (go_at_call 11; refine (countBetween_is _ _ zs d1 d2 0 _ (H.out.1.below (below_draws _ _ _)) hl HB.out).mono ?_; rintro e w' ⟨rfl, hw⟩; obtain rfl := hw.symm)
    | (go_at_call 7; refine (build_any _ _ _ _ (H.out.1.below (below_draws _ _ _)) hl).mono ?_; rintro e w1 ⟨rfl, hb1, hS1⟩))
  refine (after_is _ _ zs d1 n 0 false _ (hS1.alloc _) hl H.out.2.1 H.out.2.2.1).mono ?_
  rintro e w2 ⟨rfl, hb2⟩
  obtain ⟨hc2, hf2⟩ := bcell hb2
  go_wp2_with fail
  refine (after_is _ _ zs d2 n 0 false _ ((hS1.alloc _).below hb2) hl H.out.2.1 H.out.2.2.2.1).mono ?_
  rintro e w3 ⟨rfl, hb3⟩
  have B3 : Hid (Below w.heap.size w w3) := (((below_draws _ w q).trans hb1).alloc hb1.size _).trans ((hb2.mono (by simpa using Nat.le_succ_of_le hb1.size)).trans (hb3.mono (Nat.le_trans (by simpa using Nat.le_succ_of_le hb1.size) hb2.size)))
  clear hc2 hf2 hb1 hb2 hb3 hS1
  rcases H.out.2.2.2.2 with g0 | ⟨g0, g1⟩ | ⟨g0, g1, g2⟩
  · have hz : ¬ (0 : Int) < (zs.length : Int) := by omega
    clear g0
    go_wp2
    go_ret
    exact ⟨rfl, B3.out⟩
  · obtain ⟨b, off, rfl, hc⟩ := H.out.1.head B3.out g0
    obtain ⟨y, hy⟩ : ∃ y, y = zs.getD 0 0 := ⟨_, rfl⟩
    rw [← hy] at hc g1
    clear hy
    go_wp2
    go_ret
    exact ⟨rfl, B3.out⟩
  · obtain ⟨b, off, rfl, hc⟩ := H.out.1.head B3.out g0
    obtain ⟨y, hy⟩ : ∃ y, y = zs.getD 0 0 := ⟨_, rfl⟩
    rw [← hy] at hc g1
    clear hy
    obtain ⟨c, hcc⟩ : ∃ c : Int, (Pl.cntGt zs d1 : Int) = c := ⟨_, rfl⟩
    rw [hcc] at g2
    have HC : Hid ((Pl.cntGt zs d1 : Int) = c) := hcc
    clear hcc
    go_wp2_with fail
    refine (countAfter_is _ _ zs d1 c _ (H.out.1.below B3.out) hl HC.out).mono ?_
    rintro e w4 ⟨rfl, hw⟩
    obtain rfl := hw.symm
    go_wp2
    go_ret
    exact ⟨rfl, B3.out⟩

theorem across_yes (a : Option Addr) (cap : Nat) (zs : List Int) (d1 d2 n ed : Int) (w : World) (h : Sl w a zs) (hl : zs.length ≤ 65536) (hn : 1 ≤ n) (hd : d1 ≤ d2) (hi : Pl.Inc zs) (hbt : Pl.cntBt zs d1 d2 = 0)
    (h1 : Pl.AftIs zs d1 n ed true) (h2 : Pl.AftIs zs d2 n ed true) (g0 : 0 < zs.length) (g1 : zs.getD 0 0 ≤ d1) (g2 : n ≤ (Pl.cntGt zs d1 : Int)) (g3 : d2 < ed) (g4 : ed ∈ zs) :
    Calls Try.prog 4 #[.slice a zs.length cap, .int .i32 d1, .int .i32 d2, .int .i64 n] w fun e w' => e = .returned (.bool true) ∧ Below w.heap.size w w' := by
  obtain ⟨y, hy⟩ : ∃ y, y = zs.getD 0 0 := ⟨_, rfl⟩
  obtain ⟨c, hcc⟩ : ∃ c : Int, (Pl.cntGt zs d1 : Int) = c := ⟨_, rfl⟩
  rw [hcc] at g2
  rw [← hy] at g1
  have H : Hid (Sl w a zs ∧ Pl.Inc zs ∧ Pl.AftIs zs d1 n ed true ∧ Pl.AftIs zs d2 n ed true ∧ ed ∈ zs ∧ (Pl.cntBt zs d1 d2 : Int) = 0 ∧ y = zs.getD 0 0 ∧ (Pl.cntGt zs d1 : Int) = c) := ⟨h, hi, h1, h2, g4, by omega, hy, hcc⟩
  have hlb : zs.length ≤ 1048576 := by omega
  clear h hi h1 h2 g4 hbt hy hcc
  go_enter Try.func4, Try.ntmps4
  go_wp2_with (first
    | (go_at_call 12; refine (bytes12_yes _ _ _ _ _ _ _ hlb).mono ?_; rintro e w' ⟨rfl, hw⟩; obtain rfl := hw.symm)
    | (go_at_call 6; refine (inc_yes _ _ _ _ H.out.1 hl H.out.2.1).mono ?_; rintro e w' ⟨rfl, q, rfl⟩)
    | (go_at_call 11; refine (countBetween_is _ _ zs d1 d2 0 _ (H.out.1.below (below_draws _ _ _)) hl H.out.2.2.2.2.2.1).mono ?_; rintro e w' ⟨rfl, hw⟩; obtain rfl := hw.symm)
    | (go_at_call 7; refine (build_any _ _ _ _ (H.out.1.below (below_draws _ _ _)) hl).mono ?_; rintro e w1 ⟨rfl, hb1, hS1⟩))
  refine (after_is _ _ zs d1 n ed true _ (hS1.alloc _) hl H.out.2.1 H.out.2.2.1).mono ?_
  rintro e w2 ⟨rfl, hb2⟩
  obtain ⟨hc2, hf2⟩ := bcell hb2
  go_wp2_with fail
  refine (after_is _ _ zs d2 n ed true _ ((hS1.alloc _).below hb2) hl H.out.2.1 H.out.2.2.2.1).mono ?_
  rintro e w3 ⟨rfl, hb3⟩
  have B3 : Hid (Below w.heap.size w w3) := (((below_draws _ w q).trans hb1).alloc hb1.size _).trans ((hb2.mono (by simpa using Nat.le_succ_of_le hb1.size)).trans (hb3.mono (Nat.le_trans (by simpa using Nat.le_succ_of_le hb1.size) hb2.size)))
  clear hc2 hf2 hb1 hb2 hb3 hS1
  obtain ⟨b, off, rfl, hc⟩ := H.out.1.head B3.out g0
  rw [← H.out.2.2.2.2.2.2.1] at hc
  go_wp2_with fail
  refine (countAfter_is _ _ zs d1 c _ (H.out.1.below B3.out) hl H.out.2.2.2.2.2.2.2).mono ?_
  rintro e w4 ⟨rfl, hw⟩
  obtain rfl := hw.symm
  go_wp2_with fail
  refine (member_yes _ _ zs ed _ (H.out.1.below B3.out) hl H.out.2.2.2.2.1).mono ?_
  rintro e w4 ⟨rfl, hw⟩
  obtain rfl := hw.symm
  go_wp2
  go_ret
  exact ⟨rfl, B3.out⟩
end Go.Proofs.Qxb6629039a
