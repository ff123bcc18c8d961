import Derived.Test.Qxb6629082aWa
namespace Go.Proofs.Qxb6629082a
open Go.RowKit
set_option linter.unusedVariables false

theorem nameIs_any (a : Option Addr) (cap : Nat) (bs : List Int) (s : ByteArray) (w : World) (h : By w a bs) (_hl : bs.length ≤ 9223372036854775807) (hs : s.size ≤ 9223372036854775807) :
    Calls Try.prog 15 #[.slice a bs.length cap, .string s] w fun e w' => ∃ r, e = .returned (.bool r) ∧ (r = true ↔ Pl.Fold bs (Pl.str s)) ∧ ∃ q, w' = w.drewN q := by
  by_cases he : bs.length = s.size
  · have hne : ((bs.length : Int) == (s.size : Int)) = true := by rw [he]; simp
    have H : Hid (By w a bs ∧ bs.length = s.size) := ⟨h, he⟩
    clear h he
    go_enter Try.func15, Try.ntmps15
    go_wp2_with fail
    refine (equalFold_any _ _ _ _ _ H.out.1 H.out.2 hs).mono ?_
    rintro e w' ⟨r, rfl, hr, q, rfl⟩
    have HR : Hid (r = true ↔ Pl.Fold bs (Pl.str s)) := hr
    clear hr
    go_wp2
    go_ret
    exact ⟨r, rfl, HR.out, q, rfl⟩
  · have hne : ((bs.length : Int) == (s.size : Int)) = false := beq_false_of_ne (by omega)
    have H : Hid (¬ bs.length = s.size) := he
    clear h he
    go_enter Try.func15, Try.ntmps15
    go_wp2
    go_ret
    exact ⟨false, rfl, ⟨fun h => by simp at h, fun h => absurd (h.1.trans (Pl.str_length s)) H.out⟩, 0, rfl⟩

theorem foldEq_any (a : Option Addr) (cap : Nat) (bs : List Int) (s : ByteArray) (w : World) (h : By w a bs) (hbs : bs.length ≤ 9223372036854775807) (hs : s.size ≤ 9223372036854775807) :
    Calls Try.prog 13 #[.slice a bs.length cap, .string s] w fun e w' => ∃ r, e = .returned (.bool r) ∧ (r = true ↔ Pl.Fold bs (Pl.str s)) ∧ ∃ q, w' = w.drewN q := by
  by_cases he : bs.length = s.size
  · have H : Hid (By w a bs ∧ bs.length = s.size) := ⟨h, he⟩
    have hne : ((bs.length : Int) != (s.size : Int)) = false := by rw [he]; simp
    clear h he
    go_enter Try.func13, Try.ntmps13
    go_wp2
    go_loopw [5] (fun i wr => ∃ k : Nat, k ≤ bs.length ∧ i = .int .i64 k ∧ Hid (∃ q, wr = w.drewN q) ∧ Hid (∀ j, j < k → Pl.lowI (bs.getD j 0) = Pl.lowI ((Pl.str s).getD j 0))) (fun i _ => bs.length - (intOf i).toNat)
    case atStart => exact ⟨0, Nat.zero_le _, rfl, ⟨0, rfl⟩, fun j hj => absurd hj (Nat.not_lt_zero _)⟩
    case round =>
      obtain ⟨k, hk, rfl, HW, HN⟩ := hrel
      by_cases hlt : k < bs.length
      · have hks : k < s.size := by have := H.out.2; omega
        obtain ⟨b, off, rfl, hb, hc, hx0, hx1⟩ := H.out.1 k hlt
        have hc : wr.cell? ⟨b, off + k, none⟩ = some (.int .u8 (bs.getD k 0)) := by obtain ⟨q, rfl⟩ := HW.out; exact hc
        have l1 : (k : Int) < (bs.length : Int) := by omega
        have l2 : (k : Int) < (s.size : Int) := by omega
        have HS := Pl.str_get s k hks
        obtain ⟨x, hx⟩ : ∃ x, x = bs.getD k 0 := ⟨_, rfl⟩
        rw [← hx] at hc hx0 hx1
        have HX : Hid (x = bs.getD k 0 ∧ (Pl.str s).getD k 0 = (s[k].toNat : Int)) := ⟨hx, HS⟩
        clear hx H HS
        have hy0 : 0 ≤ (s[k].toNat : Int) := by omega
        have hy1 : (s[k].toNat : Int) ≤ 255 := by have := s[k].toNat_lt; omega
        by_cases g : (Pl.lowI x != Pl.lowI (s[k].toNat : Int)) = true
        · go_wp2
          go_quiet ((go_at_call 16; refine Calls.quiet_of_same (lower_any _ _ ?_ ?_) <;> assumption))
          go_wp2
          go_ret
          refine ⟨false, rfl, ⟨fun h => by simp at h, fun h => ?_⟩, by obtain ⟨q, rfl⟩ := HW.out; exact ⟨q + nq, by simp⟩⟩
          have := h.2 k hlt
          rw [← HX.out.1, HX.out.2] at this
          simp [this] at g
        · have g' : (Pl.lowI x != Pl.lowI (s[k].toNat : Int)) = false := by simpa using g
          clear g
          go_wp2
          go_quiet ((go_at_call 16; refine Calls.quiet_of_same (lower_any _ _ ?_ ?_) <;> assumption))
          go_wp2
          go_roundw
          case rel =>
            refine ⟨k + 1, by omega, by go_num, by obtain ⟨q, rfl⟩ := HW.out; exact ⟨q + nq, by simp⟩, fun j hj => ?_⟩
            by_cases e : j = k
            · subst e; rw [← HX.out.1, HX.out.2]; simpa using g'
            · exact HN.out j (by omega)
          case measure => simp [intOf]; omega
      · go_wp2
        go_ret
        exact ⟨true, rfl, ⟨fun _ => ⟨by rw [Pl.str_length]; exact H.out.2, fun i hi => HN.out i (by omega)⟩, fun _ => rfl⟩, HW.out⟩
  · have hne : ((bs.length : Int) != (s.size : Int)) = true := by simp; omega
    have H : Hid (¬ bs.length = s.size) := he
    clear h he
    go_enter Try.func13, Try.ntmps13
    go_wp2
    go_ret
    exact ⟨false, rfl, ⟨fun h => by simp at h, fun h => absurd (h.1.trans (Pl.str_length s)) H.out⟩, 0, rfl⟩

/-- An answer against itself. -/
theorem same_any (a : Option Addr) (cap : Nat) (bs : List Int) (ok : Bool) (w : World) (h : By w a bs) (hbs : bs.length ≤ 9223372036854775807) :
    Calls Try.prog 11 #[.slice a bs.length cap, .bool ok, .slice a bs.length cap, .bool ok] w fun e w' => e = .returned (.bool true) ∧ ∃ q, w' = w.drewN q := by
  have H : Hid (By w a bs) := h
  clear h
  have hnil := fun wx => Lib.run_eql_slice_nil (P := Try.prog) wx 22 5 a bs.length cap 0 0 Try.underlying22
  have hok : (ok != ok) = false := by simp
  have hno : (a.isNone != a.isNone) = false := by simp
  have hle : ((bs.length : Int) != (bs.length : Int)) = false := by simp
  go_enter Try.func11, Try.ntmps11
  go_wp2
  clear hnil hno hle
  go_loopw [9] (fun i wr => ∃ k q : Nat, k ≤ bs.length ∧ i = .int .i64 k ∧ wr = w.drewN q) (fun i _ => bs.length - (intOf i).toNat)
  case atStart => exact ⟨0, 0, Nat.zero_le _, rfl, rfl⟩
  case round =>
    obtain ⟨k, q, hk, rfl, rfl⟩ := hrel
    by_cases hlt : k < bs.length
    · obtain ⟨b, off, rfl, hb, hc, hx0, hx1⟩ := H.out k hlt
      have l1 : (k : Int) < (bs.length : Int) := by omega
      obtain ⟨x, hx⟩ : ∃ x, x = bs.getD k 0 := ⟨_, rfl⟩
      rw [← hx] at hc
      clear hx H hx0 hx1
      have hxx : (x != x) = false := by simp
      go_wp2
      go_quiet (fail)
      go_wp2
      go_roundw
      case rel => exact ⟨k + 1, q + nq, by omega, by go_num, by simp⟩
      case measure => simp [intOf]; omega
    · go_wp2
      go_ret
      exact ⟨rfl, q, rfl⟩

theorem add_any (t n : Int) (w : World) (h0 : 0 ≤ t) (h1 : t ≤ 1048576) (h2 : 0 ≤ n) (h3 : n ≤ 9223372036854775807) :
    Calls Try.prog 14 #[.int .i64 t, .int .i64 n] w fun e w' => w = w' ∧ ((∃ u, e = .returned (.tuple #[.int .i64 u, .bool false]) ∧ 0 ≤ u ∧ u ≤ 1048576 ∧ n ≤ 1048576) ∨ ∃ u, e = .returned (.tuple #[.int .i64 u, .bool true])) := by
  by_cases h4 : n ≤ 1048576
  · by_cases h5 : t + n ≤ 1048576
    · go_enter Try.func14, Try.ntmps14
      go_wp2
      go_ret2
      exact ⟨rfl, .inl ⟨t + n, by simp; omega, by omega, h5, h4⟩⟩
    · go_enter Try.func14, Try.ntmps14
      go_wp2
      go_ret2
      exact ⟨rfl, .inr ⟨t + n, by simp⟩⟩
  · go_enter Try.func14, Try.ntmps14
    go_wp2
    go_ret2
    exact ⟨rfl, .inr ⟨t, rfl⟩⟩
end Go.Proofs.Qxb6629082a
