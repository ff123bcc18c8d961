import Derived.Test.Qxb6629082aWf
namespace Go.Proofs.Qxb6629082a
open Go.RowKit
set_option linter.unusedVariables false

/-- It answers some bool. -/
def Says (e : Ending) : Prop := ∃ b : Bool, e = .returned (.bool b)

/-- zzBytes of the first law: it answers something, and turns nothing. -/
theorem bytes5_any (m t r a : Option Addr) (ml mc tl tc rl rc cap : Nat) (st mi : Int) (fs : List Fld) (s : ByteArray) (w : World) (h : Fields w a fs) (hs : s.size ≤ 9223372036854775807)
    (h1 : ml ≤ 9223372036854775807) (h2 : tl ≤ 9223372036854775807) (h3 : rl ≤ 9223372036854775807) (h4 : fs.length ≤ 9223372036854775807) :
    Calls Try.prog 5 #[.slice m ml mc, .slice t tl tc, .int .i64 st, .slice r rl rc, .int .i64 mi, .slice a fs.length cap, .string s] w fun e w' => Says e ∧ w' = w := by
  have H : Hid (Fields w a fs) := h
  clear h
  go_enter Try.func5, Try.ntmps5
  go_wp2
  all_goals (try (go_ret; exact ⟨⟨_, rfl⟩, rfl⟩))
  go_loop [15, 16] (fun c i => ∃ (k : Nat) (n : Int), k ≤ fs.length ∧ 0 ≤ n ∧ n ≤ 1048576 ∧ i = .int .i64 k ∧ c = .int .i64 n) (fun _ i => fs.length - (intOf i).toNat)
  case atStart => exact ⟨0, _, Nat.zero_le _, by omega, by omega, rfl, rfl⟩
  case round =>
    obtain ⟨k, n, hk, hn0, hn1, rfl, rfl⟩ := hrel
    by_cases hlt : k < fs.length
    · obtain ⟨b, off, rfl, hbl, hat, hok⟩ := H.out k hlt
      generalize hf : fs.getD k Fld.no = f at hat hok
      obtain ⟨na, nc, nm, va, vc, vb⟩ := f
      obtain ⟨hc0, hc1⟩ := hat
      obtain ⟨_, _, hn2, hn3⟩ := hok
      simp only at hc0 hc1 hn2 hn3
      clear hf H
      go_wp2
      all_goals first
        | (go_ret; exact ⟨⟨_, rfl⟩, rfl⟩)
        | (go_round
           case rel => exact ⟨k + 1, _, by omega, by omega, by omega, by go_num, rfl⟩
           case measure => simp [intOf]; omega)
    · go_wp2
      all_goals (go_ret; exact ⟨⟨_, rfl⟩, rfl⟩)

/-- zzBytes of the second law: it answers something, and turns nothing. -/
theorem bytes12_any (m t r a p v : Option Addr) (ml mc tl tc rl rc cap pl pc vl vc : Nat) (st mi at_ : Int) (fs : List Fld) (s : ByteArray) (w : World) (h : Fields w a fs) (hs : s.size ≤ 9223372036854775807)
    (h1 : ml ≤ 9223372036854775807) (h2 : tl ≤ 9223372036854775807) (h3 : rl ≤ 9223372036854775807) (h4 : fs.length ≤ 9223372036854775807) (h5 : pl ≤ 9223372036854775807) (h6 : vl ≤ 9223372036854775807) :
    Calls Try.prog 12 #[.slice m ml mc, .slice t tl tc, .int .i64 st, .slice r rl rc, .int .i64 mi, .slice a fs.length cap, .int .i64 at_, .slice p pl pc, .slice v vl vc, .string s] w fun e w' => Says e ∧ w' = w := by
  have H : Hid (Fields w a fs) := h
  clear h
  go_enter Try.func12, Try.ntmps12
  go_wp2
  all_goals (try (go_ret; exact ⟨⟨_, rfl⟩, rfl⟩))
  go_loop [21, 22] (fun c i => ∃ (k : Nat) (n : Int), k ≤ fs.length ∧ 0 ≤ n ∧ n ≤ 1048576 ∧ i = .int .i64 k ∧ c = .int .i64 n) (fun _ i => fs.length - (intOf i).toNat)
  case atStart => exact ⟨0, _, Nat.zero_le _, by omega, by omega, rfl, rfl⟩
  case round =>
    obtain ⟨k, n, hk, hn0, hn1, rfl, rfl⟩ := hrel
    by_cases hlt : k < fs.length
    · obtain ⟨b, off, rfl, hbl, hat, hok⟩ := H.out k hlt
      generalize hf : fs.getD k Fld.no = f at hat hok
      obtain ⟨na, nc, nm, va, vc, vb⟩ := f
      obtain ⟨hc0, hc1⟩ := hat
      obtain ⟨_, _, hn2, hn3⟩ := hok
      simp only at hc0 hc1 hn2 hn3
      clear hf H
      go_wp2
      all_goals first
        | (go_ret; exact ⟨⟨_, rfl⟩, rfl⟩)
        | (go_round
           case rel => exact ⟨k + 1, _, by omega, by omega, by omega, by go_num, rfl⟩
           case measure => simp [intOf]; omega)
    · go_wp2
      all_goals (go_ret; exact ⟨⟨_, rfl⟩, rfl⟩)

/-- zzTooBig: where it says no, there are at most 65536 fields and the name is of at most 2^20 bytes. -/
theorem tooBig_any (m t r a p v : Option Addr) (ml mc tl tc rl rc cap pl pc vl vc : Nat) (fs : List Fld) (s : ByteArray) (w : World) (h : Fields w a fs) (hs : s.size ≤ 9223372036854775807)
    (h1 : ml ≤ 9223372036854775807) (h2 : tl ≤ 9223372036854775807) (h3 : rl ≤ 9223372036854775807) (h4 : fs.length ≤ 9223372036854775807) (h5 : pl ≤ 9223372036854775807) (h6 : vl ≤ 9223372036854775807) :
    Calls Try.prog 6 #[.slice m ml mc, .slice t tl tc, .slice r rl rc, .slice a fs.length cap, .string s, .slice p pl pc, .slice v vl vc] w fun e w' => w = w' ∧ (e = .returned (.bool true) ∨ (e = .returned (.bool false) ∧ fs.length ≤ 65536 ∧ s.size ≤ 1048576)) := by
  have H : Hid (Fields w a fs) := h
  clear h
  go_enter Try.func6, Try.ntmps6
  go_wp2_with (go_at_call 14; refine (add_any _ _ _ ?_ ?_ ?_ ?_).mono ?_; (iterate 4 omega); rintro e w' ⟨hw, ⟨u, rfl, hu0, hu1, hu2⟩ | ⟨u, rfl⟩⟩ <;> obtain rfl := hw)
  all_goals (try (go_ret; exact ⟨rfl, .inl rfl⟩))
  go_loop [15, 17] (fun c i => ∃ (k : Nat) (n : Int), k ≤ fs.length ∧ 0 ≤ n ∧ n ≤ 1048576 ∧ i = .int .i64 k ∧ c = .int .i64 n) (fun _ i => fs.length - (intOf i).toNat)
  case atStart => exact ⟨0, _, Nat.zero_le _, by assumption, by assumption, rfl, rfl⟩
  case round =>
    obtain ⟨k, n, hk, hn0, hn1, rfl, rfl⟩ := hrel
    have hfl : fs.length ≤ 65536 := by omega
    have hss : s.size ≤ 1048576 := by omega
    by_cases hlt : k < fs.length
    · obtain ⟨b, off, rfl, hbl, hat, hok⟩ := H.out k hlt
      generalize hf : fs.getD k Fld.no = f at hat hok
      obtain ⟨na, nc, nm, va, vc, vb⟩ := f
      obtain ⟨hc0, hc1⟩ := hat
      obtain ⟨_, _, hn2, hn3⟩ := hok
      simp only at hc0 hc1 hn2 hn3
      clear hf H
      go_wp2_with (go_at_call 14; refine (add_any _ _ _ ?_ ?_ ?_ ?_).mono ?_; (iterate 4 omega); rintro e w' ⟨hw, ⟨u, rfl, hu0, hu1, hu2⟩ | ⟨u, rfl⟩⟩ <;> obtain rfl := hw)
      all_goals first
        | (go_ret; exact ⟨rfl, .inl rfl⟩)
        | (go_round
           case rel => exact ⟨k + 1, _, by omega, by assumption, by assumption, by go_num, rfl⟩
           case measure => simp [intOf]; omega)
    · go_wp2
      go_ret
      exact ⟨rfl, .inr rfl⟩
end Go.Proofs.Qxb6629082a
