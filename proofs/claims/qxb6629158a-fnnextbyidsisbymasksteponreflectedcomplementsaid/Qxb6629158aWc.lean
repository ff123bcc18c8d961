import Derived.Test.Qxb6629158aWb
namespace Go.Proofs.Qxb6629158a
open Go.RowKit
set_option linter.unusedVariables false

theorem gos_none (G n c : Nat) (v : Nat → Bool) (w : World) (h : Bv w G (n + 1) v) (hn : n ≤ 65536) (h0 : ∀ i, i < n + 1 → v i = false) :
    Calls Try.prog 8 #[.slice (some ⟨G, 0, none⟩) (n + 1) c, .int .i64 n] w fun e w' => e = .returned (.tuple #[.slice none 0 0, .bool false]) ∧ Below w.heap.size w w' := by
  have H : Hid (Bv w G (n + 1) v ∧ ∀ i, i < n + 1 → v i = false) := ⟨h, h0⟩
  clear h h0
  go_enter Try.func8, Try.ntmps8
  go_wp2_with fail
  refine (low_no G (n + 1) c v _ H.out.1 (by omega) H.out.2).mono ?_
  rintro e w1 ⟨⟨x, rfl⟩, hb⟩
  have B : Hid (Below w.heap.size w w1) := hb
  clear hb
  go_wp2
  go_ret2
  exact ⟨rfl, B.out⟩

theorem gos_over (G n c t : Nat) (v : Nat → Bool) (w : World) (h : Bv w G (n + 1) v) (hn : n ≤ 65536) (ht : t < n + 1) (h1 : v t = true) (h0 : ∀ i, i < t → v i = false) (ho : Pl.sm v (Pl.one t) n = true) :
    Calls Try.prog 8 #[.slice (some ⟨G, 0, none⟩) (n + 1) c, .int .i64 n] w fun e w' => e = .returned (.tuple #[.slice none 0 0, .bool false]) ∧ Below w.heap.size w w' := by
  have H : Hid (Bv w G (n + 1) v ∧ v t = true ∧ (∀ i, i < t → v i = false) ∧ Pl.sm v (Pl.one t) n = true) := ⟨h, h1, h0, ho⟩
  clear h h1 h0 ho
  have l0 : (n : Int) < (n : Int) + 1 := by omega
  go_enter Try.func8, Try.ntmps8
  go_wp2_with fail
  refine (low_yes G (n + 1) c v t _ H.out.1 (by omega) ht H.out.2.1 H.out.2.2.1).mono ?_
  rintro e w1 ⟨rfl, hb1, hv1⟩
  have B : Hid (Below w.heap.size w w1 ∧ Bv w1 w.heap.size (n + 1) (Pl.one t)) := ⟨hb1, hv1⟩
  clear hb1 hv1
  go_wp2_with fail
  refine (add_any G w.heap.size (n + 1) c (n + 1) v (Pl.one t) _ (H.out.1.below B.out.1) B.out.2 (by omega)).mono ?_
  rintro e w2 ⟨rfl, hb2, hv2⟩
  have B2 : Hid (Below w.heap.size w w2) := below_chain B.out.1 hb2
  have hc : w2.cell? ⟨w1.heap.size, n, none⟩ = some (.bool true) := by have := World.rowIs.cell hv2 (show n < n + 1 by omega); rw [H.out.2.2.2] at this; exact this
  clear hb2 hv2
  go_wp2
  go_ret2
  exact ⟨rfl, B2.out⟩

theorem gos_yes (G n c t : Nat) (v : Nat → Bool) (w : World) (h : Bv w G (n + 1) v) (hn : n ≤ 65536) (ht : t < n + 1) (h1 : v t = true) (h0 : ∀ i, i < t → v i = false) (ho : Pl.sm v (Pl.one t) n = false) :
    Calls Try.prog 8 #[.slice (some ⟨G, 0, none⟩) (n + 1) c, .int .i64 n] w fun e w' => ∃ G', e = .returned (.tuple #[.slice (some ⟨G', 0, none⟩) (n + 1) (n + 1), .bool true]) ∧ Below w.heap.size w w' ∧ Bv w' G' (n + 1) (Pl.gos v t (n + 1)) := by
  have H : Hid (Bv w G (n + 1) v ∧ v t = true ∧ (∀ i, i < t → v i = false) ∧ Pl.sm v (Pl.one t) n = false) := ⟨h, h1, h0, ho⟩
  clear h h1 h0 ho
  have l0 : (n : Int) < (n : Int) + 1 := by omega
  go_enter Try.func8, Try.ntmps8
  go_wp2_with fail
  refine (low_yes G (n + 1) c v t _ H.out.1 (by omega) ht H.out.2.1 H.out.2.2.1).mono ?_
  rintro e w1 ⟨rfl, hb1, hv1⟩
  have B : Hid (Below w.heap.size w w1 ∧ Bv w1 w.heap.size (n + 1) (Pl.one t)) := ⟨hb1, hv1⟩
  clear hb1 hv1
  go_wp2_with fail
  refine (add_any G w.heap.size (n + 1) c (n + 1) v (Pl.one t) _ (H.out.1.below B.out.1) B.out.2 (by omega)).mono ?_
  rintro e w2 ⟨rfl, hb2, hv2⟩
  have B2 : Hid (Below w.heap.size w w2 ∧ Bv w2 w1.heap.size (n + 1) (Pl.sm v (Pl.one t))) := ⟨below_chain B.out.1 hb2, hv2⟩
  have hc : w2.cell? ⟨w1.heap.size, n, none⟩ = some (.bool false) := by have := World.rowIs.cell hv2 (show n < n + 1 by omega); rw [H.out.2.2.2] at this; exact this
  clear hb2 hv2
  go_wp2_with fail
  refine (xor_any G w1.heap.size (n + 1) c (n + 1) v _ _ (H.out.1.below B2.out.1) B2.out.2 (by omega)).mono ?_
  rintro e w3 ⟨rfl, hb3, hv3⟩
  have B3 : Hid (Below w.heap.size w w3 ∧ Bv w3 w1.heap.size (n + 1) (Pl.sm v (Pl.one t)) ∧ Bv w3 w2.heap.size (n + 1) (fun i => v i != Pl.sm v (Pl.one t) i)) := ⟨below_chain B2.out.1 hb3, B2.out.2.below hb3, hv3⟩
  clear hb3 hv3 hc
  have ec : ((t + 2 : Nat) : Int) = (t : Int) + 2 := by omega
  have hsh := shr_any w2.heap.size (n + 1) (n + 1) (t + 2) (fun i => v i != Pl.sm v (Pl.one t) i) w3 B3.out.2.2 (by omega) (by omega)
  rw [ec] at hsh
  have HSH : Hid (Calls Try.prog 19 #[.slice (some ⟨w2.heap.size, 0, none⟩) (n + 1) (n + 1), .int .i64 ((t : Int) + 2)] w3 fun e w' => e = .returned (.slice (some ⟨w3.heap.size, 0, none⟩) (n + 1) (n + 1)) ∧ Below w3.heap.size w3 w' ∧ Bv w' w3.heap.size (n + 1) (fun i => decide (i + (t + 2) < n + 1) && (fun i => v i != Pl.sm v (Pl.one t) i) (i + (t + 2)))) := hsh
  clear hsh ec
  go_wp2_with fail
  refine HSH.out.mono ?_
  rintro e w4 ⟨rfl, hb4, hv4⟩
  have B4 : Hid (Below w.heap.size w w4 ∧ Bv w4 w1.heap.size (n + 1) (Pl.sm v (Pl.one t)) ∧ Bv w4 w3.heap.size (n + 1) (fun i => decide (i + (t + 2) < n + 1) && (fun i => v i != Pl.sm v (Pl.one t) i) (i + (t + 2)))) := ⟨below_chain B3.out.1 hb4, B3.out.2.1.below hb4, hv4⟩
  clear hb4 hv4 HSH
  go_wp2_with fail
  refine (or_any w1.heap.size w3.heap.size (n + 1) (n + 1) (n + 1) _ _ _ B4.out.2.1 B4.out.2.2 (by omega)).mono ?_
  rintro e w5 ⟨rfl, hb5, hv5⟩
  have B5 : Hid (Below w.heap.size w w5 ∧ Bv w5 w4.heap.size (n + 1) (Pl.gos v t (n + 1))) := ⟨below_chain B4.out.1 hb5, hv5⟩
  clear hb5 hv5
  go_wp2
  go_ret2
  exact ⟨w4.heap.size, rfl, B5.out⟩

/-- zzEqualInts at two slices of the same numbers. -/
theorem equal_yes (a b : Option Addr) (ca cb : Nat) (ns : List Nat) (w : World) (ha : Sl w a ns) (hb : Sl w b ns) (hl : ns.length ≤ 65536) :
    Calls Try.prog 12 #[.slice a ns.length ca, .slice b ns.length cb] w fun e w' => e = .returned (.bool true) ∧ ∃ q, w' = w.drewN q := by
  have H : Hid (Sl w a ns ∧ Sl w b ns) := ⟨ha, hb⟩
  clear ha hb
  have hne : ((ns.length : Int) != (ns.length : Int)) = false := by simp
  go_enter Try.func12, Try.ntmps12
  go_wp2
  clear hne
  go_loopw [5] (fun i wr => ∃ k q : Nat, k ≤ ns.length ∧ i = .int .i64 k ∧ wr = w.drewN q) (fun i _ => ns.length - (intOf i).toNat)
  case atStart => exact ⟨0, 0, Nat.zero_le _, rfl, rfl⟩
  case round =>
    obtain ⟨k, q, hk, rfl, rfl⟩ := hrel
    by_cases hlt : k < ns.length
    · obtain ⟨b1, o1, rfl, _, hc1⟩ := H.out.1 k hlt
      obtain ⟨b2, o2, rfl, _, hc2⟩ := H.out.2 k hlt
      have l1 : (k : Int) < (ns.length : Int) := by omega
      obtain ⟨x, hx⟩ : ∃ x, x = ns.getD k 0 := ⟨_, rfl⟩
      rw [← hx] at hc1 hc2
      have hxx : ((x : Int) != (x : Int)) = false := by simp
      clear hx H
      go_wp2
      go_quiet (fail)
      go_wp2
      go_roundw
      case rel => exact ⟨k + 1, q + nq, by omega, by go_num, by simp⟩
      case measure => simp [intOf]; omega
    · go_wp2
      go_ret
      exact ⟨rfl, q, rfl⟩

set_option maxHeartbeats 800000 in
/-- zzFirstDiff: d is the first place at which they differ. -/
theorem diff_any (a b : Option Addr) (ca cb : Nat) (xs ys : List Nat) (d : Nat) (w : World) (ha : Sl w a xs) (hb : Sl w b ys) (hl1 : xs.length ≤ 65536) (hl2 : ys.length ≤ 65536)
    (h1 : d < xs.length) (h2 : d < ys.length) (h3 : ∀ j, j < d → xs.getD j 0 = ys.getD j 0) (h4 : xs.getD d 0 ≠ ys.getD d 0) :
    Calls Try.prog 14 #[.slice a xs.length ca, .slice b ys.length cb] w fun e w' => e = .returned (.int .i64 d) ∧ ∃ q, w' = w.drewN q := by
  have H : Hid (Sl w a xs ∧ Sl w b ys ∧ (∀ j, j < d → xs.getD j 0 = ys.getD j 0) ∧ xs.getD d 0 ≠ ys.getD d 0) := ⟨ha, hb, h3, h4⟩
  clear ha hb h3 h4
  go_enter Try.func14, Try.ntmps14
  go_wp2
  go_loopw [5] (fun i wr => ∃ k q : Nat, k ≤ d ∧ i = .int .i64 k ∧ wr = w.drewN q) (fun i _ => xs.length - (intOf i).toNat)
  case atStart => exact ⟨0, 0, Nat.zero_le _, rfl, rfl⟩
  case round =>
    obtain ⟨k, q, hk, rfl, rfl⟩ := hrel
    obtain ⟨b1, o1, rfl, _, hc1⟩ := H.out.1 k (by omega)
    obtain ⟨b2, o2, rfl, _, hc2⟩ := H.out.2.1 k (by omega)
    have l1 : (k : Int) < (xs.length : Int) := by omega
    have l2 : (k : Int) < (ys.length : Int) := by omega
    have g1 : decide (k < xs.length) = true := decide_eq_true (by omega)
    have g2 : decide (k < ys.length) = true := decide_eq_true (by omega)
    obtain ⟨x, hx⟩ : ∃ x, x = xs.getD k 0 := ⟨_, rfl⟩
    obtain ⟨y, hy⟩ : ∃ y, y = ys.getD k 0 := ⟨_, rfl⟩
    rw [← hx] at hc1
    rw [← hy] at hc2
    by_cases hlt : k < d
    · have e : x = y := by rw [hx, hy]; exact H.out.2.2.1 k hlt
      subst e
      have hxx : ((x : Int) == (x : Int)) = true := by simp
      clear hx hy H
      go_wp2
      go_quiet (fail)
      go_wp2
      go_roundw
      case rel => exact ⟨k + 1, q + nq, by omega, by go_num, by simp⟩
      case measure => simp [intOf]; omega
    · obtain rfl : k = d := by omega
      have hne : x ≠ y := by rw [hx, hy]; exact H.out.2.2.2
      have hxx : ((x : Int) == (y : Int)) = false := beq_false_of_ne (by omega)
      clear hx hy H hne
      go_wp2
      go_quiet (fail)
      go_wp2
      go_ret
      exact ⟨rfl, q + nq, by simp⟩
end Go.Proofs.Qxb6629158a
