import Derived.Test.Qxb6629039aWd
namespace Go.Proofs.Qxb6629039a
open Go.RowKit

theorem below_draws (B : Nat) (w : World) (n : Nat) : Below B w (w.drewN n) := ⟨rfl, rfl, rfl, Nat.le_refl _, fun _ _ => rfl⟩

theorem after_is (a : Option Addr) (cap : Nat) (zs : List Int) (d n r : Int) (ok : Bool) (w : World) (h : Sl w a zs) (hl : zs.length ≤ 65536) (hi : Pl.Inc zs) (ha : Pl.AftIs zs d n r ok) :
    Calls Try.prog 8 #[.agg #[.slice a zs.length cap], .int .i32 d, .int .i64 n] w fun e w' => e = .returned (.tuple #[.int .i32 r, .bool ok]) ∧ Below w.heap.size w w' := by
  rcases ha with ⟨h0, rfl, rfl⟩ | ⟨h0, h1, rfl, rfl⟩ | ⟨q, h0, h1, hq, h2, rfl, rfl⟩ | ⟨q, m, rfl, hm, h0, h1, hq, h2, rfl, rfl⟩
  · exact after_empty a cap zs d n w h0
  · exact after_before a cap zs d n w h h0 h1
  · exact after_short a cap zs d n q w h hl h0 h1 hi hq h2
  · exact after_hit a cap zs d m q w h hl h0 h1 hi hq hm h2
theorem countAfter_is (a : Option Addr) (cap : Nat) (zs : List Int) (d c : Int) (w : World) (h : Sl w a zs) (hl : zs.length ≤ 65536) (hc : (Pl.cntGt zs d : Int) = c) :
    Calls Try.prog 9 #[.slice a zs.length cap, .int .i32 d] w fun e w' => e = .returned (.int .i64 c) ∧ w' = w := by
  rw [← hc]; exact countAfter_any a cap zs d w h hl
theorem countBetween_is (a : Option Addr) (cap : Nat) (zs : List Int) (lo hi c : Int) (w : World) (h : Sl w a zs) (hl : zs.length ≤ 65536) (hc : (Pl.cntBt zs lo hi : Int) = c) :
    Calls Try.prog 11 #[.slice a zs.length cap, .int .i32 lo, .int .i32 hi] w fun e w' => e = .returned (.int .i64 c) ∧ w' = w := by
  rw [← hc]; exact countBetween_any a cap zs lo hi w h hl
theorem inc_yes (a : Option Addr) (cap : Nat) (zs : List Int) (w : World) (h : Sl w a zs) (hl : zs.length ≤ 65536) (hi : Pl.Inc zs) :
    Calls Try.prog 6 #[.slice a zs.length cap] w fun e w' => e = .returned (.bool true) ∧ ∃ n, w' = w.drewN n := by
  refine (inc_any a cap zs w h hl).mono ?_
  rintro e w' ⟨r, n, rfl, hr, rfl⟩
  exact ⟨ret_bool (hr.2 hi), n, rfl⟩
theorem inc_no (a : Option Addr) (cap : Nat) (zs : List Int) (w : World) (h : Sl w a zs) (hl : zs.length ≤ 65536) (hi : ¬ Pl.Inc zs) :
    Calls Try.prog 6 #[.slice a zs.length cap] w fun e w' => e = .returned (.bool false) ∧ ∃ n, w' = w.drewN n := by
  refine (inc_any a cap zs w h hl).mono ?_
  rintro e w' ⟨r, n, rfl, hr, rfl⟩
  exact ⟨ret_bool (by cases r; rfl; exact absurd (hr.1 rfl) hi), n, rfl⟩
theorem bytes5_yes (a : Option Addr) (len cap : Nat) (d m n : Int) (w : World) (hl : len ≤ 1048576) :
    Calls Try.prog 5 #[.slice a len cap, .int .i32 d, .int .i64 m, .int .i64 n] w fun e w' => e = .returned (.bool true) ∧ w' = w := by
  go_enter Try.func5, Try.ntmps5
  go_wp2
  go_ret
  exact ⟨rfl, rfl⟩
theorem bytes5_no (a : Option Addr) (len cap : Nat) (d m n : Int) (w : World) (hl : 1048576 < len) :
    Calls Try.prog 5 #[.slice a len cap, .int .i32 d, .int .i64 m, .int .i64 n] w fun e w' => e = .returned (.bool false) ∧ w' = w := by
  go_enter Try.func5, Try.ntmps5
  go_wp2
  go_ret
  exact ⟨rfl, rfl⟩
theorem bcell {W w1 : World} (hb : Below W.heap.size W w1) : (∀ b o, b < W.heap.size → w1.cell? ⟨b, o, none⟩ = W.cell? ⟨b, o, none⟩) ∧ (∀ b o, b < W.heap.size → w1.frozen? ⟨b, o, none⟩ = W.frozen? ⟨b, o, none⟩) :=
  ⟨fun b o h => hb.cell (p := ⟨b, o, none⟩) h, fun b o h => hb.frozen (p := ⟨b, o, none⟩) h⟩

/-- The input is none of the law's. -/
theorem comp_out (a : Option Addr) (cap : Nat) (zs : List Int) (d m n : Int) (w : World) (h : Sl w a zs) (hm : -9223372036854775808 ≤ m ∧ m ≤ 9223372036854775807) (hn : -9223372036854775808 ≤ n ∧ n ≤ 9223372036854775807)
    (ho : ¬ (zs.length ≤ 65536 ∧ 1 ≤ m ∧ 1 ≤ n ∧ m ≤ 9223372036854775807 - n ∧ Pl.Inc zs)) (hcap : zs.length ≤ maxLen) :
    Calls Try.prog 3 #[.slice a zs.length cap, .int .i32 d, .int .i64 m, .int .i64 n] w fun e w' => e = .returned (.bool true) ∧ Below w.heap.size w w' := by
  unfold maxLen at hcap
  obtain ⟨hm1, hm2⟩ := hm
  obtain ⟨hn1, hn2⟩ := hn
  by_cases h1 : zs.length ≤ 1048576
  · by_cases h2 : zs.length ≤ 65536
    · by_cases h3 : m < 1
      · clear ho
        go_enter Try.func3, Try.ntmps3
        go_wp2_with (go_at_call 5; refine (bytes5_yes _ _ _ _ _ _ _ h1).mono ?_; rintro e w' ⟨rfl, rfl⟩)
        go_ret
        exact ⟨rfl, Below.refl _ _⟩
      · by_cases h4 : n < 1
        · clear ho
          go_enter Try.func3, Try.ntmps3
          go_wp2_with (go_at_call 5; refine (bytes5_yes _ _ _ _ _ _ _ h1).mono ?_; rintro e w' ⟨rfl, rfl⟩)
          go_ret
          exact ⟨rfl, Below.refl _ _⟩
        · by_cases h5 : m ≤ 9223372036854775807 - n
          · have hi : ¬ Pl.Inc zs := fun hi => ho ⟨h2, by omega, by omega, h5, hi⟩
            have H : Hid (Sl w a zs ∧ ¬ Pl.Inc zs) := ⟨h, hi⟩
            clear ho hi h
            go_enter Try.func3, Try.ntmps3
            go_wp2_with (first | (go_at_call 5; refine (bytes5_yes _ _ _ _ _ _ _ h1).mono ?_; rintro e w' ⟨rfl, rfl⟩) | (go_at_call 6; refine (inc_no _ _ _ _ H.out.1 h2 H.out.2).mono ?_; rintro e w' ⟨rfl, q, rfl⟩))
            go_ret
            exact ⟨rfl, below_draws _ _ _⟩
          · clear ho
            go_enter Try.func3, Try.ntmps3
            go_wp2_with (go_at_call 5; refine (bytes5_yes _ _ _ _ _ _ _ h1).mono ?_; rintro e w' ⟨rfl, rfl⟩)
            go_ret
            exact ⟨rfl, Below.refl _ _⟩
    · clear ho
      go_enter Try.func3, Try.ntmps3
      go_wp2_with (go_at_call 5; refine (bytes5_yes _ _ _ _ _ _ _ h1).mono ?_; rintro e w' ⟨rfl, rfl⟩)
      go_ret
      exact ⟨rfl, Below.refl _ _⟩
  · clear ho
    go_enter Try.func3, Try.ntmps3
    go_wp2_with (go_at_call 5; refine (bytes5_no _ _ _ _ _ _ _ (by omega)).mono ?_; rintro e w' ⟨rfl, rfl⟩)
    go_ret
    exact ⟨rfl, Below.refl _ _⟩

/-- The cell of a slice's first element, in a later world. -/
theorem Sl.head {w w' : World} {a : Option Addr} {zs : List Int} (h : Sl w a zs) (hb : Below w.heap.size w w') (h0 : 0 < zs.length) : ∃ b off, a = some ⟨b, off, none⟩ ∧ w'.cell? ⟨b, off, none⟩ = some (.int .i32 (zs.getD 0 0)) := by
  obtain ⟨b, off, e, _, hc⟩ := h.below hb 0 h0
  exact ⟨b, off, e, by simpa using hc⟩

theorem comp_no (a : Option Addr) (cap : Nat) (zs : List Int) (d m n : Int) (w : World) (h : Sl w a zs) (hl : zs.length ≤ 65536) (hm : 1 ≤ m) (hn : 1 ≤ n) (hmn : m ≤ 9223372036854775807 - n) (hi : Pl.Inc zs)
    (h1 : Pl.AftIs zs d m 0 false) (h2 : Pl.AftIs zs d (m + n) 0 false) (h0 : zs.length = 0 ∨ (0 < zs.length ∧ d < zs.getD 0 0) ∨ (0 < zs.length ∧ zs.getD 0 0 ≤ d ∧ (Pl.cntGt zs d : Int) < m)) :
    Calls Try.prog 3 #[.slice a zs.length cap, .int .i32 d, .int .i64 m, .int .i64 n] w fun e w' => e = .returned (.bool true) ∧ Below w.heap.size w w' := by
  have H : Hid (Sl w a zs ∧ Pl.Inc zs ∧ Pl.AftIs zs d m 0 false ∧ Pl.AftIs zs d (m + n) 0 false ∧ (zs.length = 0 ∨ (0 < zs.length ∧ d < zs.getD 0 0) ∨ (0 < zs.length ∧ zs.getD 0 0 ≤ d ∧ (Pl.cntGt zs d : Int) < m))) := ⟨h, hi, h1, h2, h0⟩
  have hlb : zs.length ≤ 1048576 := by omega
  clear h hi h1 h2 h0
  go_enter Try.func3, Try.ntmps3
  go_wp2_with (first
    | (go_at_call 5; refine (bytes5_yes _ _ _ _ _ _ _ hlb).mono ?_; rintro e w' ⟨rfl, hw⟩; obtain rfl := hw.symm)
    | (go_at_call 6; refine (inc_yes _ _ _ _ H.out.1 hl H.out.2.1).mono ?_; rintro e w' ⟨rfl, q, rfl⟩)
    | (go_at_call 7; refine (build_any _ _ _ _ (H.out.1.below (below_draws _ _ _)) hl).mono ?_; rintro e w1 ⟨rfl, hb1, hS1⟩))
  refine (after_is _ _ zs d m 0 false _ (hS1.alloc _) hl H.out.2.1 H.out.2.2.1).mono ?_
  rintro e w2 ⟨rfl, hb2⟩
  obtain ⟨hc2, hf2⟩ := bcell hb2
  go_wp2_with fail
  refine (after_is _ _ zs d (m + n) 0 false _ ((hS1.alloc _).below hb2) hl H.out.2.1 H.out.2.2.2.1).mono ?_
  rintro e w3 ⟨rfl, hb3⟩
  have B3 : Hid (Below w.heap.size w w3) := (((below_draws _ w q).trans hb1).alloc hb1.size _).trans ((hb2.mono (by simpa using Nat.le_succ_of_le hb1.size)).trans (hb3.mono (Nat.le_trans (by simpa using Nat.le_succ_of_le hb1.size) hb2.size)))
  clear hc2 hf2 hb1 hb2 hb3 hS1
  rcases H.out.2.2.2.2 with g0 | ⟨g0, g1⟩ | ⟨g0, g1, g2⟩
  · have hz : ¬ (0 : Int) < (zs.length : Int) := by omega
    clear g0
    go_wp2
    go_ret
    exact ⟨rfl, B3.out⟩
  · obtain ⟨b, off, rfl, hc⟩ := H.out.1.head B3.out g0
    obtain ⟨y, hy⟩ : ∃ y, y = zs.getD 0 0 := ⟨_, rfl⟩
    rw [← hy] at hc g1
    clear hy
    go_wp2
    go_ret
    exact ⟨rfl, B3.out⟩
  · obtain ⟨b, off, rfl, hc⟩ := H.out.1.head B3.out g0
    obtain ⟨y, hy⟩ : ∃ y, y = zs.getD 0 0 := ⟨_, rfl⟩
    rw [← hy] at hc g1
    clear hy
    obtain ⟨c, hcc⟩ : ∃ c : Int, (Pl.cntGt zs d : Int) = c := ⟨_, rfl⟩
    rw [hcc] at g2
    have HC : Hid ((Pl.cntGt zs d : Int) = c) := hcc
    clear hcc
    go_wp2_with fail
    refine (countAfter_is _ _ zs d c _ (H.out.1.below B3.out) hl HC.out).mono ?_
    rintro e w4 ⟨rfl, hw⟩
    obtain rfl := hw.symm
    go_wp2
    go_ret
    exact ⟨rfl, B3.out⟩

theorem comp_yes (a : Option Addr) (cap : Nat) (zs : List Int) (d m n ed f : Int) (ok : Bool) (w : World) (h : Sl w a zs) (hl : zs.length ≤ 65536) (hm : 1 ≤ m) (hn : 1 ≤ n) (hmn : m ≤ 9223372036854775807 - n) (hi : Pl.Inc zs)
    (h1 : Pl.AftIs zs d m ed true) (h2 : Pl.AftIs zs d (m + n) f ok) (h3 : Pl.AftIs zs ed n f ok) (g0 : 0 < zs.length) (g1 : zs.getD 0 0 ≤ d) (g2 : m ≤ (Pl.cntGt zs d : Int)) (g3 : d < ed) (g4 : ed ∈ zs) (g5 : (Pl.cntBt zs d ed : Int) = m) :
    Calls Try.prog 3 #[.slice a zs.length cap, .int .i32 d, .int .i64 m, .int .i64 n] w fun e w' => e = .returned (.bool true) ∧ Below w.heap.size w w' := by
  obtain ⟨y, hy⟩ : ∃ y, y = zs.getD 0 0 := ⟨_, rfl⟩
  obtain ⟨c, hcc⟩ : ∃ c : Int, (Pl.cntGt zs d : Int) = c := ⟨_, rfl⟩
  rw [hcc] at g2
  rw [← hy] at g1
  have H : Hid (Sl w a zs ∧ Pl.Inc zs ∧ Pl.AftIs zs d m ed true ∧ Pl.AftIs zs d (m + n) f ok ∧ Pl.AftIs zs ed n f ok ∧ ed ∈ zs ∧ (Pl.cntBt zs d ed : Int) = m ∧ y = zs.getD 0 0 ∧ (Pl.cntGt zs d : Int) = c) := ⟨h, hi, h1, h2, h3, g4, g5, hy, hcc⟩
  have hlb : zs.length ≤ 1048576 := by omega
  clear h hi h1 h2 h3 g4 g5 hy hcc
  go_enter Try.func3, Try.ntmps3
  go_wp2_with (first
    | (go_at_call 5; refine (bytes5_yes _ _ _ _ _ _ _ hlb).mono ?_; rintro e w' ⟨rfl, hw⟩; obtain rfl := hw.symm)
    | (go_at_call 6; refine (inc_yes _ _ _ _ H.out.1 hl H.out.2.1).mono ?_; rintro e w' ⟨rfl, q, rfl⟩)
    | (go_at_call 7; refine (build_any _ _ _ _ (H.out.1.below (below_draws _ _ _)) hl).mono ?_; rintro e w1 ⟨rfl, hb1, hS1⟩))
  refine (after_is _ _ zs d m ed true _ (hS1.alloc _) hl H.out.2.1 H.out.2.2.1).mono ?_
  rintro e w2 ⟨rfl, hb2⟩
  obtain ⟨hc2, hf2⟩ := bcell hb2
  go_wp2_with fail
  refine (after_is _ _ zs d (m + n) f ok _ ((hS1.alloc _).below hb2) hl H.out.2.1 H.out.2.2.2.1).mono ?_
  rintro e w3 ⟨rfl, hb3⟩
  have B3 : Hid (Below w.heap.size w w3) := (((below_draws _ w q).trans hb1).alloc hb1.size _).trans ((hb2.mono (by simpa using Nat.le_succ_of_le hb1.size)).trans (hb3.mono (Nat.le_trans (by simpa using Nat.le_succ_of_le hb1.size) hb2.size)))
  have S3 : Hid (Sl w3 (some ⟨w.heap.size + 1, 0, none⟩) zs) := ((hS1.alloc _).below hb2).below hb3
  have hc3 := (bcell hb3).1
  have hsz : w1.heap.size < w2.heap.size := by have := hb2.size; simp at this; omega
  clear hf2 hb1 hb2 hb3 hS1
  obtain ⟨b, off, rfl, hc⟩ := H.out.1.head B3.out g0
  rw [← H.out.2.2.2.2.2.2.2.1] at hc
  go_wp2_with fail
  refine (countAfter_is _ _ zs d c _ (H.out.1.below B3.out) hl H.out.2.2.2.2.2.2.2.2).mono ?_
  rintro e w4 ⟨rfl, hw⟩
  obtain rfl := hw.symm
  go_wp2_with fail
  refine (member_yes _ _ zs ed _ (H.out.1.below B3.out) hl H.out.2.2.2.2.2.1).mono ?_
  rintro e w4 ⟨rfl, hw⟩
  obtain rfl := hw.symm
  go_wp2_with fail
  refine (countBetween_is _ _ zs d ed m _ (H.out.1.below B3.out) hl H.out.2.2.2.2.2.2.1).mono ?_
  rintro e w4 ⟨rfl, hw⟩
  obtain rfl := hw.symm
  go_wp2_with fail
  refine (after_is _ _ zs ed n f ok _ S3.out hl H.out.2.1 H.out.2.2.2.2.1).mono ?_
  rintro e w4 ⟨rfl, hb4⟩
  have B4 : Hid (Below w.heap.size w w4) := B3.out.trans (hb4.mono B3.out.size)
  clear hb4
  cases ok
  all_goals
    go_wp2
    go_ret
    exact ⟨rfl, B4.out⟩
end Go.Proofs.Qxb6629039a
