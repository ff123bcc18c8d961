import Derived.Test.Qxb6629039aRows
import Derived.Test.Qxb6629039aPlain
import Derived.WalkKit
import Derived.WalkSpells
import Derived.Deep.QuietTactic
import Derived.BigQuiet
namespace Go.Proofs.Qxb6629039a
open Go.RowKit

/-- The elements of a slice of int32: nothing is said of an empty one. -/
def Sl (w : World) (a : Option Addr) (zs : List Int) : Prop :=
  ∀ i, i < zs.length → ∃ b off, a = some ⟨b, off, none⟩ ∧ b < w.heap.size ∧ w.cell? ⟨b, off + i, none⟩ = some (.int .i32 (zs.getD i 0))

theorem ret_int {k : IntKind} {a b : Int} (h : a = b) : Ending.returned (.int k a) = .returned (.int k b) := by rw [h]
theorem ret_bool {a b : Bool} (h : a = b) : Ending.returned (.bool a) = .returned (.bool b) := by rw [h]

theorem countAfter_any (a : Option Addr) (cap : Nat) (zs : List Int) (d : Int) (w : World) (h : Sl w a zs) (hl : zs.length ≤ 65536) :
    Calls Try.prog 9 #[.slice a zs.length cap, .int .i32 d] w fun e w' => e = .returned (.int .i64 (Pl.cntGt zs d)) ∧ w' = w := by
  have H : Hid (Sl w a zs) := h
  clear h
  go_enter Try.func9, Try.ntmps9
  go_wp2
  go_loop [5, 6] (fun c i => ∃ k n : Nat, k ≤ zs.length ∧ n ≤ k ∧ i = .int .i64 k ∧ c = .int .i64 n ∧ Hid (n = Pl.cntGt (zs.take k) d)) (fun _ i => zs.length - (intOf i).toNat)
  case atStart => exact ⟨0, 0, Nat.zero_le _, Nat.le_refl _, rfl, rfl, rfl⟩
  case round =>
    obtain ⟨k, n, hk, hn, rfl, rfl, HN⟩ := hrel
    by_cases hlt : k < zs.length
    · obtain ⟨b, off, rfl, hb, hc⟩ := H.out k hlt
      have HS := Pl.cntGt_take zs k d hlt
      obtain ⟨x, hx⟩ : ∃ x, x = zs.getD k 0 := ⟨_, rfl⟩
      rw [← hx] at hc HS
      have HS' : Hid (Pl.cntGt (zs.take (k + 1)) d = Pl.cntGt (zs.take k) d + if d < x then 1 else 0) := HS
      clear HS hx H
      by_cases hd : d < x
      · go_wp2
        go_round
        case rel => exact ⟨k + 1, n + 1, by omega, by omega, by go_num, by go_num, by show _ = _; rw [HS'.out, if_pos hd, HN.out]⟩
        case measure => simp [intOf]; omega
      · go_wp2
        go_round
        case rel => exact ⟨k + 1, n, by omega, by omega, by go_num, by go_num, by show _ = _; rw [HS'.out, if_neg hd, HN.out]; omega⟩
        case measure => simp [intOf]; omega
    · go_wp2
      go_ret
      have e : n = Pl.cntGt zs d := by have := HN.out; rwa [List.take_of_length_le (by omega)] at this
      exact ⟨ret_int (by rw [e]), rfl⟩

theorem countBetween_any (a : Option Addr) (cap : Nat) (zs : List Int) (lo hi : Int) (w : World) (h : Sl w a zs) (hl : zs.length ≤ 65536) :
    Calls Try.prog 11 #[.slice a zs.length cap, .int .i32 lo, .int .i32 hi] w fun e w' => e = .returned (.int .i64 (Pl.cntBt zs lo hi)) ∧ w' = w := by
  have H : Hid (Sl w a zs) := h
  clear h
  go_enter Try.func11, Try.ntmps11
  go_wp2
  go_loop [7, 8] (fun c i => ∃ k n : Nat, k ≤ zs.length ∧ n ≤ k ∧ i = .int .i64 k ∧ c = .int .i64 n ∧ Hid (n = Pl.cntBt (zs.take k) lo hi)) (fun _ i => zs.length - (intOf i).toNat)
  case atStart => exact ⟨0, 0, Nat.zero_le _, Nat.le_refl _, rfl, rfl, rfl⟩
  case round =>
    obtain ⟨k, n, hk, hn, rfl, rfl, HN⟩ := hrel
    by_cases hlt : k < zs.length
    · obtain ⟨b, off, rfl, hb, hc⟩ := H.out k hlt
      have HS := Pl.cntBt_take zs k lo hi hlt
      obtain ⟨x, hx⟩ : ∃ x, x = zs.getD k 0 := ⟨_, rfl⟩
      rw [← hx] at hc HS
      have HS' : Hid (Pl.cntBt (zs.take (k + 1)) lo hi = Pl.cntBt (zs.take k) lo hi + if lo < x ∧ x ≤ hi then 1 else 0) := HS
      clear HS hx H
      by_cases hd : lo < x
      · by_cases hd2 : x ≤ hi
        · go_wp2
          go_round
          case rel => exact ⟨k + 1, n + 1, by omega, by omega, by go_num, by go_num, by show _ = _; rw [HS'.out, if_pos ⟨hd, hd2⟩, HN.out]⟩
          case measure => simp [intOf]; omega
        · go_wp2
          go_round
          case rel => exact ⟨k + 1, n, by omega, by omega, by go_num, by go_num, by show _ = _; rw [HS'.out, if_neg (fun h => hd2 h.2), HN.out]; omega⟩
          case measure => simp [intOf]; omega
      · go_wp2
        go_round
        case rel => exact ⟨k + 1, n, by omega, by omega, by go_num, by go_num, by show _ = _; rw [HS'.out, if_neg (fun h => hd h.1), HN.out]; omega⟩
        case measure => simp [intOf]; omega
    · go_wp2
      go_ret
      have e : n = Pl.cntBt zs lo hi := by have := HN.out; rwa [List.take_of_length_le (by omega)] at this
      exact ⟨ret_int (by rw [e]), rfl⟩

theorem member_yes (a : Option Addr) (cap : Nat) (zs : List Int) (y : Int) (w : World) (h : Sl w a zs) (hl : zs.length ≤ 65536) (hy : y ∈ zs) :
    Calls Try.prog 10 #[.slice a zs.length cap, .int .i32 y] w fun e w' => e = .returned (.bool true) ∧ w' = w := by
  have H : Hid (Sl w a zs) := h
  clear h
  have HY : Hid (∃ i, i < zs.length ∧ zs.getD i 0 = y) := by
    obtain ⟨i, hi, e⟩ := List.mem_iff_getElem.1 hy
    exact ⟨i, hi, by simpa [List.getD_eq_getElem?_getD, hi] using e⟩
  clear hy
  go_enter Try.func10, Try.ntmps10
  go_wp2
  go_loop [5] (fun i => ∃ k : Nat, k ≤ zs.length ∧ i = .int .i64 k ∧ Hid (∀ j, j < k → zs.getD j 0 ≠ y)) (fun i => zs.length - (intOf i).toNat)
  case atStart => exact ⟨0, Nat.zero_le _, rfl, fun j hj => absurd hj (Nat.not_lt_zero _)⟩
  case round =>
    obtain ⟨k, hk, rfl, HN⟩ := hrel
    by_cases hlt : k < zs.length
    · obtain ⟨b, off, rfl, hb, hc⟩ := H.out k hlt
      obtain ⟨x, hx⟩ : ∃ x, x = zs.getD k 0 := ⟨_, rfl⟩
      rw [← hx] at hc
      have HX : Hid (x = zs.getD k 0) := hx
      clear hx H
      by_cases hd : (x == y) = true
      · go_wp2
        go_ret
        exact ⟨rfl, rfl⟩
      · have hd' : (x == y) = false := by simpa using hd
        clear hd
        go_wp2
        go_round
        case rel =>
          refine ⟨k + 1, by omega, by go_num, fun j hj => ?_⟩
          by_cases e : j = k
          · subst e; rw [← HX.out]; simpa using hd'
          · exact HN.out j (by omega)
        case measure => simp [intOf]; omega
    · exfalso
      obtain ⟨i, hi, e⟩ := HY.out
      exact HN.out i (by omega) e

theorem inc_any (a : Option Addr) (cap : Nat) (zs : List Int) (w : World) (h : Sl w a zs) (hl : zs.length ≤ 65536) :
    Calls Try.prog 6 #[.slice a zs.length cap] w fun e w' => ∃ (r : Bool) (n : Nat), e = .returned (.bool r) ∧ (r = true ↔ Pl.Inc zs) ∧ w' = w.drewN n := by
  have H : Hid (Sl w a zs) := h
  clear h
  go_enter Try.func6, Try.ntmps6
  go_wp2
  go_loopw [3] (fun i wr => ∃ k q : Nat, 1 ≤ k ∧ (k ≤ zs.length ∨ k = 1) ∧ i = .int .i64 k ∧ wr = w.drewN q ∧ Hid (∀ j, j + 1 < k → zs.getD j 0 < zs.getD (j + 1) 0)) (fun i _ => zs.length - (intOf i).toNat)
  case atStart => exact ⟨1, 0, Nat.le_refl _, .inr rfl, rfl, rfl, fun j hj => by omega⟩
  case round =>
    obtain ⟨k, q, hk1, hk, rfl, rfl, HN⟩ := hrel
    by_cases hlt : k < zs.length
    · obtain ⟨b, off, rfl, hb, hc⟩ := H.out k hlt
      have hc1 : w.cell? ⟨b, off + (k - 1), none⟩ = some (.int .i32 (zs.getD (k - 1) 0)) := by
        obtain ⟨b', off', e, _, h1⟩ := H.out (k - 1) (by omega)
        simp at e; obtain ⟨rfl, rfl⟩ := e; exact h1
      obtain ⟨x, hx⟩ : ∃ x, x = zs.getD k 0 := ⟨_, rfl⟩
      obtain ⟨y, hy⟩ : ∃ y, y = zs.getD (k - 1) 0 := ⟨_, rfl⟩
      rw [← hx] at hc
      rw [← hy] at hc1
      have HX : Hid (x = zs.getD k 0 ∧ y = zs.getD (k - 1) 0) := ⟨hx, hy⟩
      clear hx hy H
      have l1 : (k : Int) < (zs.length : Int) := by omega
      have l2 : (0 : Int) ≤ (k : Int) - 1 := by omega
      have l3 : (k : Int) - 1 < (zs.length : Int) := by omega
      by_cases hd : x ≤ y
      · go_wp2
        go_quiet (fail)
        go_wp2
        go_ret
        refine ⟨false, q + nq, rfl, ⟨fun h => by simp at h, fun h => ?_⟩, World.drewN_drewN _ _ _⟩
        have := h (k - 1) (by omega)
        rw [show k - 1 + 1 = k by omega, ← HX.out.1, ← HX.out.2] at this
        omega
      · go_wp2
        go_quiet (fail)
        go_wp2
        go_roundw
        case rel =>
          refine ⟨k + 1, q + nq, by omega, by omega, by go_num, rfl, fun j hj => ?_⟩
          by_cases e : j + 1 = k
          · subst e; have := HX.out; rw [show j + 1 - 1 = j by omega] at this; rw [← this.1, ← this.2]; omega
          · exact HN.out j (by omega)
        case measure => simp [intOf]; omega
    · go_wp2
      go_ret
      exact ⟨true, q, rfl, ⟨fun _ j hj => HN.out j (by omega), fun _ => rfl⟩, rfl⟩

theorem nan16 (x : Int) (w : World) : Calls Try.prog 16 #[.int .i32 x] w fun e w' => e = .returned (.bool false) ∧ w' = w := by
  go_enter Try.func16, Try.ntmps16
  go_wp2
  go_ret
  exact ⟨by simp, rfl⟩
theorem nan17 (x : Int) (w : World) : Calls Try.prog 17 #[.int .i32 x] w fun e w' => e = .returned (.bool false) ∧ w' = w := by
  go_enter Try.func17, Try.ntmps17
  go_wp2
  go_ret
  exact ⟨by simp, rfl⟩
theorem less_any (x y : Int) (w : World) : Calls Try.prog 15 #[.int .i32 x, .int .i32 y] w fun e w' => e = .returned (.bool (decide (x < y))) ∧ w' = w := by
  go_enter Try.func15, Try.ntmps15
  go_wp2_with (go_at_call 17; refine (nan17 _ _).mono ?_; rintro e w' ⟨rfl, rfl⟩)
  go_ret
  exact ⟨rfl, rfl⟩
end Go.Proofs.Qxb6629039a
