import Derived.Test.Qxb6629039aWb
namespace Go.Proofs.Qxb6629039a
open Go.RowKit

theorem Sl.below {w w' : World} {a : Option Addr} {zs : List Int} (h : Sl w a zs) (hb : Below w.heap.size w w') : Sl w' a zs := by
  intro i hi
  obtain ⟨b, off, e, hlt, hc⟩ := h i hi
  exact ⟨b, off, e, Nat.lt_of_lt_of_le hlt hb.size, by rw [hb.cell (p := ⟨b, off + i, none⟩) hlt]; exact hc⟩
theorem Sl.alloc {w : World} {a : Option Addr} {zs : List Int} (h : Sl w a zs) (o : Obj) : Sl (w.alloc o) a zs :=
  h.below ((Below.refl _ _).alloc (Nat.le_refl _) _)

theorem after_empty (a : Option Addr) (cap : Nat) (zs : List Int) (d n : Int) (w : World) (h0 : zs.length = 0) :
    Calls Try.prog 8 #[.agg #[.slice a zs.length cap], .int .i32 d, .int .i64 n] w fun e w' => e = .returned (.tuple #[.int .i32 0, .bool false]) ∧ Below w.heap.size w w' := by
  go_enter Try.func8, Try.ntmps8
  go_wp2
  go_ret2
  exact ⟨rfl, (Below.refl _ _).alloc (Nat.le_refl _) _⟩

theorem after_before (a : Option Addr) (cap : Nat) (zs : List Int) (d n : Int) (w : World) (h : Sl w a zs) (h0 : 0 < zs.length) (hd : d < zs.getD 0 0) :
    Calls Try.prog 8 #[.agg #[.slice a zs.length cap], .int .i32 d, .int .i64 n] w fun e w' => e = .returned (.tuple #[.int .i32 0, .bool false]) ∧ Below w.heap.size w w' := by
  obtain ⟨b, off, rfl, hb, hc⟩ := (h.alloc (.cells #[.slice a zs.length cap] 27)) 0 h0
  clear h
  obtain ⟨y, hy⟩ : ∃ y, y = zs.getD 0 0 := ⟨_, rfl⟩
  rw [← hy] at hc hd
  clear hy
  have hne : ((zs.length : Int) == 0) = false := beq_false_of_ne (by omega)
  simp only [Nat.add_zero] at hc
  go_enter Try.func8, Try.ntmps8
  go_wp2
  go_ret2
  exact ⟨rfl, (Below.refl _ _).alloc (Nat.le_refl _) _⟩

theorem after_short (a : Option Addr) (cap : Nat) (zs : List Int) (d n : Int) (q : Nat) (w : World) (h : Sl w a zs) (hl : zs.length ≤ 65536) (h0 : 0 < zs.length) (hd : zs.getD 0 0 ≤ d) (hi : Pl.Inc zs) (hq : Pl.PartsLe zs d q) (hn : (zs.length : Int) - q < n) :
    Calls Try.prog 8 #[.agg #[.slice a zs.length cap], .int .i32 d, .int .i64 n] w fun e w' => e = .returned (.tuple #[.int .i32 0, .bool false]) ∧ Below w.heap.size w w' := by
  have hs := h.alloc (.cells #[.slice a zs.length cap] 27)
  obtain ⟨b, off, rfl, hb, hc⟩ := hs 0 h0
  obtain ⟨y, hy⟩ : ∃ y, y = zs.getD 0 0 := ⟨_, rfl⟩
  rw [← hy] at hc hd
  clear hy h
  have hne : ((zs.length : Int) == 0) = false := beq_false_of_ne (by omega)
  have hql := hq.1
  simp only [Nat.add_zero] at hc
  rcases Pl.parts_lt_of hi d q hq with ⟨hp, hf⟩ | ⟨p, rfl, hp, hf1, hf2⟩
  · have H : Hid (Sl (w.alloc (.cells #[.slice (some ⟨b, off, none⟩) zs.length cap] 27)) (some ⟨b, off, none⟩) zs ∧ Pl.Inc zs ∧ Pl.PartsLt zs d q ∧ ¬ (q < zs.length ∧ zs.getD q 0 = d)) := ⟨hs, hi, hp, hf⟩
    clear hs hi hp hf hq
    go_enter Try.func8, Try.ntmps8
    go_wp2_with (go_at_call 14; refine (search_any (some ⟨b, off, none⟩) cap zs d q _ H.out.1 hl H.out.2.2.1 H.out.2.1).mono ?_; rw [decide_eq_false H.out.2.2.2]; rintro e w' ⟨rfl, rfl⟩)
    go_ret2
    exact ⟨rfl, (Below.refl _ _).alloc (Nat.le_refl _) _⟩
  · have H : Hid (Sl (w.alloc (.cells #[.slice (some ⟨b, off, none⟩) zs.length cap] 27)) (some ⟨b, off, none⟩) zs ∧ Pl.Inc zs ∧ Pl.PartsLt zs d p ∧ (p < zs.length ∧ zs.getD p 0 = d)) := ⟨hs, hi, hp, hf1, hf2⟩
    clear hs hi hp hf2 hq
    go_enter Try.func8, Try.ntmps8
    go_wp2_with (go_at_call 14; refine (search_any (some ⟨b, off, none⟩) cap zs d p _ H.out.1 hl H.out.2.2.1 H.out.2.1).mono ?_; rw [decide_eq_true H.out.2.2.2]; rintro e w' ⟨rfl, rfl⟩)
    go_ret2
    exact ⟨rfl, (Below.refl _ _).alloc (Nat.le_refl _) _⟩

theorem after_hit (a : Option Addr) (cap : Nat) (zs : List Int) (d : Int) (m q : Nat) (w : World) (h : Sl w a zs) (hl : zs.length ≤ 65536) (h0 : 0 < zs.length) (hd : zs.getD 0 0 ≤ d) (hi : Pl.Inc zs) (hq : Pl.PartsLe zs d q) (hm : 1 ≤ m) (hn : q + m ≤ zs.length) :
    Calls Try.prog 8 #[.agg #[.slice a zs.length cap], .int .i32 d, .int .i64 m] w fun e w' => e = .returned (.tuple #[.int .i32 (zs.getD (q + m - 1) 0), .bool true]) ∧ Below w.heap.size w w' := by
  have hs := h.alloc (.cells #[.slice a zs.length cap] 27)
  obtain ⟨b, off, rfl, hb, hc⟩ := hs 0 h0
  obtain ⟨y, hy⟩ : ∃ y, y = zs.getD 0 0 := ⟨_, rfl⟩
  rw [← hy] at hc hd
  clear hy h
  have hne : ((zs.length : Int) == 0) = false := beq_false_of_ne (by omega)
  have hql := hq.1
  have hc2 : (w.alloc (.cells #[.slice (some ⟨b, off, none⟩) zs.length cap] 27)).cell? ⟨b, off + (q + m - 1), none⟩ = some (.int .i32 (zs.getD (q + m - 1) 0)) := by
    obtain ⟨b', off', e, _, h1⟩ := hs (q + m - 1) (by omega)
    simp at e; obtain ⟨rfl, rfl⟩ := e; exact h1
  obtain ⟨z, hz⟩ : ∃ z, z = zs.getD (q + m - 1) 0 := ⟨_, rfl⟩
  rw [← hz] at hc2
  rw [← hz]
  clear hz
  simp only [Nat.add_zero] at hc
  rcases Pl.parts_lt_of hi d q hq with ⟨hp, hf⟩ | ⟨p, rfl, hp, hf1, hf2⟩
  · have H : Hid (Sl (w.alloc (.cells #[.slice (some ⟨b, off, none⟩) zs.length cap] 27)) (some ⟨b, off, none⟩) zs ∧ Pl.Inc zs ∧ Pl.PartsLt zs d q ∧ ¬ (q < zs.length ∧ zs.getD q 0 = d)) := ⟨hs, hi, hp, hf⟩
    clear hs hi hp hf hq
    go_enter Try.func8, Try.ntmps8
    go_wp2_with (go_at_call 14; refine (search_any (some ⟨b, off, none⟩) cap zs d q _ H.out.1 hl H.out.2.2.1 H.out.2.1).mono ?_; rw [decide_eq_false H.out.2.2.2]; rintro e w' ⟨rfl, rfl⟩)
    go_ret2
    exact ⟨rfl, (Below.refl _ _).alloc (Nat.le_refl _) _⟩
  · have H : Hid (Sl (w.alloc (.cells #[.slice (some ⟨b, off, none⟩) zs.length cap] 27)) (some ⟨b, off, none⟩) zs ∧ Pl.Inc zs ∧ Pl.PartsLt zs d p ∧ (p < zs.length ∧ zs.getD p 0 = d)) := ⟨hs, hi, hp, hf1, hf2⟩
    clear hs hi hp hf2 hq
    rw [show p + 1 + m - 1 = p + m by omega] at hc2
    go_enter Try.func8, Try.ntmps8
    go_wp2_with (go_at_call 14; refine (search_any (some ⟨b, off, none⟩) cap zs d p _ H.out.1 hl H.out.2.2.1 H.out.2.1).mono ?_; rw [decide_eq_true H.out.2.2.2]; rintro e w' ⟨rfl, rfl⟩)
    go_ret2
    exact ⟨rfl, (Below.refl _ _).alloc (Nat.le_refl _) _⟩
end Go.Proofs.Qxb6629039a
