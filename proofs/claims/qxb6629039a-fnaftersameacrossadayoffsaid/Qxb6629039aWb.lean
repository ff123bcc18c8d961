import Derived.Test.Qxb6629039aWa
import Derived.Deep.LoopGhost
import Derived.Deep.Draws
namespace Go.Proofs.Qxb6629039a
open Go.RowKit

set_option maxHeartbeats 1000000 in
theorem search_any (a : Option Addr) (cap : Nat) (zs : List Int) (x : Int) (p : Nat) (w : World) (h : Sl w a zs) (hl : zs.length ≤ 65536) (hp : Pl.PartsLt zs x p) (hi : Pl.Inc zs) :
    Calls Try.prog 14 #[.slice a zs.length cap, .int .i32 x] w fun e w' => e = .returned (.tuple #[.int .i64 p, .bool (decide (p < zs.length ∧ zs.getD p 0 = x))]) ∧ w' = w := by
  have H : Hid (Sl w a zs ∧ Pl.PartsLt zs x p ∧ Pl.Inc zs) := ⟨h, hp, hi⟩
  clear h hp hi
  go_enter Try.func14, Try.ntmps14
  go_wp2
  go_loopg [7, 8] zs.length (fun g s7 s8 wr => ∃ lo hi : Nat, s7 = .int .i64 lo ∧ s8 = .int .i64 hi ∧ lo ≤ hi ∧ hi ≤ zs.length ∧ hi - lo ≤ g ∧ wr = w ∧ lo ≤ p ∧ p ≤ hi)
  case atStart => exact ⟨0, zs.length, rfl, rfl, Nat.zero_le _, Nat.le_refl _, by omega, rfl, Nat.zero_le _, H.out.2.1.1⟩
  case round =>
    obtain ⟨lo, hi, rfl, rfl, hlh, hin, hg, rfl, h1, h2⟩ := hrel
    by_cases hlt : lo < hi
    · obtain ⟨b, off, rfl, hb, cm⟩ := H.out.1 ((lo + hi) / 2) (by omega)
      obtain ⟨y, hy⟩ : ∃ y, y = zs.getD ((lo + hi) / 2) 0 := ⟨_, rfl⟩
      rw [← hy] at cm
      have Y : Hid (y = zs.getD ((lo + hi) / 2) 0) := hy
      clear hy
      by_cases hyx : y < x
      · have hp' : (lo + hi) / 2 < p := by
          rcases Nat.lt_or_ge ((lo + hi) / 2) p with h | h
          · exact h
          · have := H.out.2.1.2.2 _ h (by omega); rw [← Y.out] at this; omega
        go_wp2_with (first | (go_at_call 15; refine (less_any _ _ _).mono ?_; rintro e w' ⟨rfl, rfl⟩) | (go_at_call 16; refine (nan16 _ _).mono ?_; rintro e w' ⟨rfl, rfl⟩))
        go_roundg (hi - ((lo + hi) / 2 + 1))
        case measure => omega
        case rel => exact ⟨(lo + hi) / 2 + 1, hi, by rw [show ((lo : Int) + (hi : Int)) / 2 + 1 = (((lo + hi) / 2 + 1 : Nat) : Int) by omega], rfl, by omega, hin, Nat.le_refl _, rfl, by omega, h2⟩
      · have hp' : p ≤ (lo + hi) / 2 := by
          rcases Nat.lt_or_ge ((lo + hi) / 2) p with h | h
          · have := H.out.2.1.2.1 _ h; rw [← Y.out] at this; omega
          · exact h
        go_wp2_with (first | (go_at_call 15; refine (less_any _ _ _).mono ?_; rintro e w' ⟨rfl, rfl⟩) | (go_at_call 16; refine (nan16 _ _).mono ?_; rintro e w' ⟨rfl, rfl⟩))
        go_roundg ((lo + hi) / 2 - lo)
        case measure => omega
        case rel => exact ⟨lo, (lo + hi) / 2, rfl, by rw [show ((lo : Int) + (hi : Int)) / 2 = (((lo + hi) / 2 : Nat) : Int) by omega], by omega, by omega, Nat.le_refl _, rfl, h1, by omega⟩
    · obtain rfl : hi = lo := by omega
      obtain rfl : p = hi := by omega
      by_cases hn : p < zs.length
      · obtain ⟨b, off, rfl, hb, cl⟩ := H.out.1 p hn
        obtain ⟨y, hy⟩ : ∃ y, y = zs.getD p 0 := ⟨_, rfl⟩
        rw [← hy] at cl
        have Y : Hid (y = zs.getD p 0) := hy
        clear hy
        by_cases hyx : (y == x) = true
        · go_wp2_with (first | (go_at_call 15; refine (less_any _ _ _).mono ?_; rintro e w' ⟨rfl, rfl⟩) | (go_at_call 16; refine (nan16 _ _).mono ?_; rintro e w' ⟨rfl, rfl⟩))
          go_ret2
          refine ⟨?_, rfl⟩
          rw [decide_eq_true (show p < zs.length ∧ zs.getD p 0 = x from ⟨hn, by rw [← Y.out]; simpa using hyx⟩)]
          first | rfl | simp [*]
        · have hyx' : (y == x) = false := by simpa using hyx
          clear hyx
          go_wp2_with (first | (go_at_call 15; refine (less_any _ _ _).mono ?_; rintro e w' ⟨rfl, rfl⟩) | (go_at_call 16; refine (nan16 _ _).mono ?_; rintro e w' ⟨rfl, rfl⟩))
          go_ret2
          refine ⟨?_, rfl⟩
          rw [decide_eq_false (show ¬ (p < zs.length ∧ zs.getD p 0 = x) from fun h => by rw [← Y.out] at h; simp [h.2] at hyx')]
          first | rfl | simp [*]
      · go_wp2_with (first | (go_at_call 15; refine (less_any _ _ _).mono ?_; rintro e w' ⟨rfl, rfl⟩) | (go_at_call 16; refine (nan16 _ _).mono ?_; rintro e w' ⟨rfl, rfl⟩))
        go_ret2
        refine ⟨?_, rfl⟩
        rw [decide_eq_false (show ¬ (p < zs.length ∧ zs.getD p 0 = x) from fun h => hn h.1)]
        first | rfl | simp [*]
end Go.Proofs.Qxb6629039a
