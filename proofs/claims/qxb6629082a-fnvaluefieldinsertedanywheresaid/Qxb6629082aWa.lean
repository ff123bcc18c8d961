import Derived.Test.Qxb6629082aRows
import Derived.Test.Qxb6629082aPlain
import Derived.Test.Qxb6629082aBits
import Derived.WalkKit
import Derived.WalkSpells
import Derived.Deep.QuietTactic
import Derived.BigQuiet
import Derived.Deep.LoopGhost
import Derived.Deep.Draws
import Derived.Deep.OwnRows
namespace Go.Proofs.Qxb6629082a
open Go.RowKit

theorem ret_int {k : IntKind} {a b : Int} (h : a = b) : Ending.returned (.int k a) = .returned (.int k b) := by rw [h]
theorem ret_bool {a b : Bool} (h : a = b) : Ending.returned (.bool a) = .returned (.bool b) := by rw [h]
theorem below_draws (B : Nat) (w : World) (n : Nat) : Below B w (w.drewN n) := ⟨rfl, rfl, rfl, Nat.le_refl _, fun _ _ => rfl⟩
theorem bcell {W w1 : World} (hb : Below W.heap.size W w1) : (∀ b o, b < W.heap.size → w1.cell? ⟨b, o, none⟩ = W.cell? ⟨b, o, none⟩) ∧ (∀ b o, b < W.heap.size → w1.frozen? ⟨b, o, none⟩ = W.frozen? ⟨b, o, none⟩) :=
  ⟨fun b o h => hb.cell (p := ⟨b, o, none⟩) h, fun b o h => hb.frozen (p := ⟨b, o, none⟩) h⟩

/-- The bytes of a slice: nothing is said of an empty one. -/
def By (w : World) (a : Option Addr) (bs : List Int) : Prop :=
  ∀ i, i < bs.length → ∃ b off, a = some ⟨b, off, none⟩ ∧ b < w.heap.size ∧ w.cell? ⟨b, off + i, none⟩ = some (.int .u8 (bs.getD i 0)) ∧ 0 ≤ bs.getD i 0 ∧ bs.getD i 0 ≤ 255
theorem By.below {w w' : World} {a : Option Addr} {bs : List Int} (h : By w a bs) (hb : Below w.heap.size w w') : By w' a bs := by
  intro i hi
  obtain ⟨b, off, e, hlt, hc, h1, h2⟩ := h i hi
  exact ⟨b, off, e, Nat.lt_of_lt_of_le hlt hb.size, by rw [hb.cell (p := ⟨b, off + i, none⟩) hlt]; exact hc, h1, h2⟩

theorem lower_any (x : Int) (w : World) (h0 : 0 ≤ x) (h1 : x ≤ 255) : Calls Try.prog 16 #[.int .u8 x] w fun e w' => e = .returned (.int .u8 (Pl.lowI x)) ∧ w' = w := by
  by_cases h2 : 65 ≤ x
  · by_cases h3 : x ≤ 90
    · have e : x + 32 = Pl.lowI x := by unfold Pl.lowI; rw [if_pos ⟨h2, h3⟩]
      rw [← e]; clear e
      go_enter Try.func16, Try.ntmps16
      go_wp2
      go_ret
      exact ⟨rfl, rfl⟩
    · have e : x = Pl.lowI x := by unfold Pl.lowI; rw [if_neg (fun h => h3 h.2)]
      rw [← e]; clear e
      go_enter Try.func16, Try.ntmps16
      go_wp2
      go_ret
      exact ⟨rfl, rfl⟩
  · have e : x = Pl.lowI x := by unfold Pl.lowI; rw [if_neg (fun h => h2 h.1)]
    rw [← e]; clear e
    go_enter Try.func16, Try.ntmps16
    go_wp2
    go_ret
    exact ⟨rfl, rfl⟩

theorem isLower_any (x : Int) (w : World) : Calls Try.prog 18 #[.int .u8 x] w fun e w' => e = .returned (.bool (decide (97 ≤ x ∧ x ≤ 122))) ∧ w' = w := by
  by_cases h2 : 97 ≤ x
  · by_cases h3 : x ≤ 122
    · rw [decide_eq_true ⟨h2, h3⟩]
      go_enter Try.func18, Try.ntmps18
      go_wp2
      go_ret
      exact ⟨ret_bool (by simp), rfl⟩
    · rw [decide_eq_false (fun h => h3 h.2)]
      go_enter Try.func18, Try.ntmps18
      go_wp2
      go_ret
      exact ⟨ret_bool (by simp), rfl⟩
  · rw [decide_eq_false (fun h => h2 h.1)]
    go_enter Try.func18, Try.ntmps18
    go_wp2
    go_ret
    exact ⟨ret_bool (by simp), rfl⟩

theorem equalFold_any (a : Option Addr) (cap : Nat) (bs : List Int) (s : ByteArray) (w : World) (h : By w a bs) (hl : bs.length = s.size) (hs : s.size ≤ 9223372036854775807) :
    Calls Try.prog 17 #[.slice a bs.length cap, .string s] w fun e w' => ∃ r, e = .returned (.bool r) ∧ (r = true ↔ Pl.Fold bs (Pl.str s)) ∧ ∃ q, w' = w.drewN q := by
  have H : Hid (By w a bs ∧ bs.length = s.size) := ⟨h, hl⟩
  have hne : ((bs.length : Int) != (s.size : Int)) = false := by rw [hl]; simp
  clear h hl
  go_enter Try.func17, Try.ntmps17
  go_wp2
  go_loopw [14] (fun i wr => ∃ k q : Nat, k ≤ bs.length ∧ i = .int .i64 k ∧ wr = w.drewN q ∧ Hid (∀ j, j < k → Pl.lowI (bs.getD j 0) = Pl.lowI ((Pl.str s).getD j 0))) (fun i _ => bs.length - (intOf i).toNat)
  case atStart => exact ⟨0, 0, Nat.zero_le _, rfl, rfl, fun j hj => absurd hj (Nat.not_lt_zero _)⟩
  case round =>
    obtain ⟨k, q, hk, rfl, rfl, HN⟩ := hrel
    have hbs : bs.length ≤ 9223372036854775807 := by have := H.out.2; omega
    by_cases hlt : k < bs.length
    · have hks : k < s.size := by have := H.out.2; omega
      obtain ⟨b, off, rfl, hb, hc, hx0, hx1⟩ := H.out.1 k hlt
      have l1 : (k : Int) < (bs.length : Int) := by omega
      have l2 : (k : Int) < (s.size : Int) := by omega
      have HS := Pl.str_get s k hks
      obtain ⟨x, hx⟩ : ∃ x, x = bs.getD k 0 := ⟨_, rfl⟩
      rw [← hx] at hc hx0 hx1
      have HX : Hid (x = bs.getD k 0 ∧ (Pl.str s).getD k 0 = (s[k].toNat : Int)) := ⟨hx, HS⟩
      clear hx H HS
      have hy1 : (s[k].toNat : Int) ≤ 255 := by have := s[k].toNat_lt; omega
      rcases fold_bits x (s[k].toNat : Int) hx0 hx1 (by omega) hy1 with ⟨g1, g2⟩ | ⟨g1, g2, g3⟩ | ⟨g1, g2, g3⟩ | ⟨g1, g2, g3⟩
      · have G : Hid (Pl.lowI x = Pl.lowI (s[k].toNat : Int)) := g2
        clear g2
        go_wp2
        go_quiet (fail)
        go_wp2
        go_roundw
        case rel =>
          refine ⟨k + 1, q + nq, by omega, by go_num, by simp, fun j hj => ?_⟩
          by_cases e : j = k
          · subst e; rw [← HX.out.1, HX.out.2]; exact G.out
          · exact HN.out j (by omega)
        case measure => simp [intOf]; omega
      · have G : Hid (Pl.lowI x = Pl.lowI (s[k].toNat : Int)) := g3
        clear g3
        go_wp2
        go_quiet (fail)
        go_wp2_with (go_at_call 18; refine (isLower_any _ _).mono ?_; rw [decide_eq_true g2]; rintro e w' ⟨rfl, hw⟩; obtain rfl := hw.symm)
        go_roundw
        case rel =>
          refine ⟨k + 1, q + nq, by omega, by go_num, by simp, fun j hj => ?_⟩
          by_cases e : j = k
          · subst e; rw [← HX.out.1, HX.out.2]; exact G.out
          · exact HN.out j (by omega)
        case measure => simp [intOf]; omega
      · have G : Hid (Pl.lowI x ≠ Pl.lowI (s[k].toNat : Int)) := g3
        have G2 : Hid (¬ (97 ≤ bits .or .u8 x 32 ∧ bits .or .u8 x 32 ≤ 122)) := g2
        clear g3 g2
        go_wp2
        go_quiet (fail)
        go_wp2_with (go_at_call 18; refine (isLower_any _ _).mono ?_; rw [decide_eq_false G2.out]; rintro e w' ⟨rfl, hw⟩; obtain rfl := hw.symm)
        go_ret
        refine ⟨false, rfl, ⟨fun h => by simp at h, fun h => ?_⟩, q + nq, by simp⟩
        have := h.2 k hlt
        rw [← HX.out.1, HX.out.2] at this
        exact absurd this G.out
      · have G : Hid (Pl.lowI x ≠ Pl.lowI (s[k].toNat : Int)) := g3
        have g4 : (bits .xor .u8 x (s[k].toNat : Int) != 0) = true := by simpa using g1
        have g5 : (bits .xor .u8 x (s[k].toNat : Int) != 32) = true := by simpa using g2
        clear g3 g1 g2
        go_wp2
        go_quiet (fail)
        go_wp2_with fail
        go_ret
        refine ⟨false, rfl, ⟨fun h => by simp at h, fun h => ?_⟩, q + nq, by simp⟩
        have := h.2 k hlt
        rw [← HX.out.1, HX.out.2] at this
        exact absurd this G.out
    · go_wp2
      go_ret
      exact ⟨true, rfl, ⟨fun _ => ⟨by rw [Pl.str_length]; exact H.out.2, fun i hi => HN.out i (by omega)⟩, fun _ => rfl⟩, q, rfl⟩
end Go.Proofs.Qxb6629082a
