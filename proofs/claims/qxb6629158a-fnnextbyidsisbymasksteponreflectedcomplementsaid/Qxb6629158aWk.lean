import Derived.Test.Qxb6629158aWh
import Derived.Test.Qxb6629158aWj
namespace Go.Proofs.Qxb6629158a
open Go.RowKit
set_option linter.unusedVariables false

theorem bytes15_yes (a : Option Addr) (len cap : Nat) (n : Int) (w : World) (hl : len ≤ 1048576) :
    Calls Try.prog 15 #[.slice a len cap, .int .i64 n] w fun e w' => e = .returned (.bool true) ∧ w = w' := by
  go_enter Try.func15, Try.ntmps15
  go_wp2
  go_ret
  exact ⟨rfl, rfl⟩
theorem bytes15_no (a : Option Addr) (len cap : Nat) (n : Int) (w : World) (hl : 1048576 < len) :
    Calls Try.prog 15 #[.slice a len cap, .int .i64 n] w fun e w' => e = .returned (.bool false) ∧ w = w' := by
  go_enter Try.func15, Try.ntmps15
  go_wp2
  go_ret
  exact ⟨rfl, rfl⟩

/-- The input is none of the second law's. -/
theorem ids_out (a : Option Addr) (cap : Nat) (zs : List Int) (n : Int) (w : World) (h : SlI w a zs) (ho : ¬ (zs.length ≤ 65536 ∧ 0 ≤ n ∧ n ≤ 65536 ∧ Valid zs n)) (hcap : zs.length ≤ 9223372036854775807) :
    Calls Try.prog 4 #[.slice a zs.length cap, .int .i64 n] w fun e w' => e = .returned (.bool true) ∧ Below w.heap.size w w' := by
  by_cases h1 : zs.length ≤ 1048576
  · by_cases h2 : zs.length ≤ 65536
    · by_cases h3 : n < 0
      · clear ho
        go_enter Try.func4, Try.ntmps4
        go_wp2_with (go_at_call 15; refine (bytes15_yes _ _ _ _ _ h1).mono ?_; rintro e w' ⟨rfl, hw⟩; obtain rfl := hw)
        go_ret
        exact ⟨rfl, Below.refl _ _⟩
      · by_cases h4 : 65536 < n
        · clear ho
          go_enter Try.func4, Try.ntmps4
          go_wp2_with (go_at_call 15; refine (bytes15_yes _ _ _ _ _ h1).mono ?_; rintro e w' ⟨rfl, hw⟩; obtain rfl := hw)
          go_ret
          exact ⟨rfl, Below.refl _ _⟩
        · have hv : ¬ Valid zs n := fun hv => ho ⟨h2, by omega, by omega, hv⟩
          have H : Hid (SlI w a zs ∧ ¬ Valid zs n) := ⟨h, hv⟩
          clear ho hv h
          go_enter Try.func4, Try.ntmps4
          go_wp2_with (first
            | (go_at_call 15; refine (bytes15_yes _ _ _ _ _ h1).mono ?_; rintro e w' ⟨rfl, hw⟩; obtain rfl := hw)
            | (go_at_call 6; refine (valid_no _ _ zs n _ H.out.1 h2 (by omega) (by omega) H.out.2).mono ?_; rintro e w' ⟨rfl, q, rfl⟩))
          go_ret
          exact ⟨rfl, below_draws _ _ _⟩
    · clear ho
      go_enter Try.func4, Try.ntmps4
      go_wp2_with (go_at_call 15; refine (bytes15_yes _ _ _ _ _ h1).mono ?_; rintro e w' ⟨rfl, hw⟩; obtain rfl := hw)
      go_ret
      exact ⟨rfl, Below.refl _ _⟩
  · clear ho
    go_enter Try.func4, Try.ntmps4
    go_wp2_with (go_at_call 15; refine (bytes15_no _ _ _ _ _ (by omega)).mono ?_; rintro e w' ⟨rfl, hw⟩; obtain rfl := hw)
    go_ret
    exact ⟨rfl, Below.refl _ _⟩

theorem newComb_ex (a : Option Addr) (len c : Nat) (ord : Int) (n : Nat) (w : World) :
    Calls Try.prog 10 #[.slice a len c, .int .i64 ord, .int .i64 n] w fun e w' => ∃ cb, e = .returned (.pointer (some ⟨cb, 0, none⟩)) ∧ Below w.heap.size w w' ∧ Comb w' cb a len c ord n ∧ w.heap.size ≤ cb := by
  refine (newComb_any a len c ord n w).mono ?_
  rintro e w' ⟨rfl, hb, hc, hs⟩
  exact ⟨_, rfl, hb, hc, Nat.le_refl _⟩

/-- Gosper's next of a list that has none. -/
theorem gos_off (G n c : Nat) (l : List Nat) (w : World) (h : Bv w G (n + 1) (Pl.msk l)) (hn : n ≤ 65536) (hi : Pl.Inc l) (hx : ∀ x ∈ l, x < n) (ho : Off l n) :
    Calls Try.prog 8 #[.slice (some ⟨G, 0, none⟩) (n + 1) c, .int .i64 n] w fun e w' => e = .returned (.tuple #[.slice none 0 0, .bool false]) ∧ Below w.heap.size w w' := by
  rcases ho with h0 | ⟨k, hk, hlast⟩
  · refine gos_none G n c (Pl.msk l) w h hn (fun i _ => ?_)
    have : l = [] := List.length_eq_zero_iff.1 h0
    rw [this]; simp [Pl.msk]
  · have hm := hk.mem hi
    have hr := hk.run k (Nat.le_refl _)
    refine gos_over G n c (l.getD 0 0) (Pl.msk l) w h hn (by omega) (decide_eq_true ((hm _).2.1 (Nat.le_refl _) (by omega))) (fun i c => decide_eq_false ((hm i).1 c)) ?_
    rw [Pl.sm_run (v := Pl.msk l) (r := k + 1) (fun i c => decide_eq_false ((hm i).1 c)) (fun i c1 c2 => decide_eq_true ((hm i).2.1 c1 (by omega))) (decide_eq_false ((hm _).2.2 (by omega))) (by omega)]
    rw [decide_eq_true (show n = l.getD 0 0 + (k + 1) by omega)]; rfl
/-- Gosper's next of a list that has one. -/
theorem gos_on (G n c k : Nat) (l : List Nat) (w : World) (h : Bv w G (n + 1) (Pl.msk l)) (hn : n ≤ 65536) (hi : Pl.Inc l) (hx : ∀ x ∈ l, x < n) (hk : Pl.Top l k) (hlast : l.getD k 0 + 1 < n) :
    Calls Try.prog 8 #[.slice (some ⟨G, 0, none⟩) (n + 1) c, .int .i64 n] w fun e w' => ∃ G' g, e = .returned (.tuple #[.slice (some ⟨G', 0, none⟩) (n + 1) (n + 1), .bool true]) ∧ Below w.heap.size w w' ∧ Bv w' G' (n + 1) g ∧ Pl.zones g n = Pl.nxt l k := by
  have hm := hk.mem hi
  have hr := hk.run k (Nat.le_refl _)
  refine (gos_yes G n c (l.getD 0 0) (Pl.msk l) w h hn (by omega) (decide_eq_true ((hm _).2.1 (Nat.le_refl _) (by omega))) (fun i c => decide_eq_false ((hm i).1 c)) ?_).mono ?_
  · rw [Pl.sm_run (v := Pl.msk l) (r := k + 1) (fun i c => decide_eq_false ((hm i).1 c)) (fun i c1 c2 => decide_eq_true ((hm i).2.1 c1 (by omega))) (decide_eq_false ((hm _).2.2 (by omega))) (by omega)]
    have : Pl.msk l n = false := decide_eq_false fun h => Nat.lt_irrefl _ (hx n h)
    rw [decide_eq_false (show ¬ n = l.getD 0 0 + (k + 1) by omega), this]; simp
  · rintro e w' ⟨G', rfl, hb, hv⟩
    exact ⟨G', _, rfl, hb, hv, Pl.gos_zones hk hi hx (by omega)⟩

theorem draws_below {w w' : World} (h : ∃ q, w' = w.drewN q) (B : Nat) : Below B w w' := by
  obtain ⟨q, rfl⟩ := h
  exact below_draws _ _ _

/-- Next in the order of the masks, of a list that has none. -/
theorem next_off (cb c : Nat) (a : Option Addr) (l : List Nat) (n : Nat) (w : World) (h : Comb w cb a l.length c 1 n) (hz : Own w a l) (hl : l.length ≤ 65536) (hn : n ≤ 65536) (hx : ∀ x ∈ l, x < n) (ho : Off l n) :
    Calls Try.prog 11 #[.pointer (some ⟨cb, 0, none⟩)] w fun e w' => e = .returned (.tuple #[.int .i64 0, .bool false]) ∧ Below w.heap.size w w' := by
  rcases ho with h0 | ⟨k, hk, hlast⟩
  · rw [h0] at h
    refine (next_empty cb a c n w h).mono ?_
    rintro e w' ⟨rfl, hq⟩
    exact ⟨rfl, draws_below hq _⟩
  · obtain ⟨zb, rfl, hnum⟩ := hz.nums (by have := hk.1; omega)
    refine (next_last cb zb c l k n w h hnum hl hn hk hx hlast).mono ?_
    rintro e w' ⟨rfl, hq⟩
    exact ⟨rfl, draws_below hq _⟩
/-- Next in the order of the masks, of a list that has one. -/
theorem next_on (cb zb c : Nat) (l : List Nat) (k n : Nat) (w : World) (h : Comb w cb (some ⟨zb, 0, none⟩) l.length c 1 n) (hz : Nums w zb l) (hcz : cb ≠ zb) (hl : l.length ≤ 65536) (hn : n ≤ 65536) (hk : Pl.Top l k) (hx : ∀ x ∈ l, x < n) (hlast : l.getD k 0 + 1 < n) :
    Calls Try.prog 11 #[.pointer (some ⟨cb, 0, none⟩)] w fun e w' => ∃ r : Int, e = .returned (.tuple #[.int .i64 r, .bool true]) ∧ Only zb w w' ∧ Nums w' zb (Pl.nxt l k) := by
  by_cases c0 : l.getD 0 0 = 0
  · refine (next_next cb zb c l k n k w h hz hcz hl hn hk hx hlast (.inl ⟨c0, rfl⟩)).mono ?_
    rintro e w' ⟨rfl, h1, h2⟩
    exact ⟨_, rfl, h1, h2⟩
  · refine (next_next cb zb c l k n 0 w h hz hcz hl hn hk hx hlast (.inr ⟨c0, rfl⟩)).mono ?_
    rintro e w' ⟨rfl, h1, h2⟩
    exact ⟨_, rfl, h1, h2⟩

theorem Own.below {w w' : World} {a : Option Addr} {ns : List Nat} (h : Own w a ns) (hb : Below w.heap.size w w') : Own w' a ns := by
  intro h0
  obtain ⟨G, e, m, f, h1, h2, h3⟩ := h h0
  exact ⟨G, e, m, f, h1.of_block (hb.block G h1.lt), h2, h3⟩
theorem Nums.only {B : Nat} {w w' : World} {zb : Nat} {ns : List Nat} (h : Nums w zb ns) (ho : Only B w w') (hne : zb ≠ B) : Nums w' zb ns := by
  obtain ⟨m, f, h1, h2, h3⟩ := h
  exact ⟨m, f, h1.of_block (ho.block zb hne), h2, h3⟩
theorem Bv.only {B : Nat} {w w' : World} {G L : Nat} {g : Nat → Bool} (h : Bv w G L g) (ho : Only B w w') (hne : G ≠ B) : Bv w' G L g := World.rowIs.of_block h (ho.block _ hne)
theorem bv_ne {w : World} {G L zb : Nat} {g : Nat → Bool} {ns : List Nat} (h : Bv w G L g) (hz : Nums w zb ns) : G ≠ zb := fun e => by
  subst e
  obtain ⟨c1', hh1, _⟩ := h
  obtain ⟨m, f, ⟨c2', hh2, _⟩, _⟩ := hz
  rw [hh1] at hh2
  simp at hh2
theorem Comb.below {w w' : World} {cb : Nat} {a : Option Addr} {len c : Nat} {ord : Int} {n : Nat} (h : Comb w cb a len c ord n) (hlt : cb < w.heap.size) (hb : Below w.heap.size w w') : Comb w' cb a len c ord n := by
  obtain ⟨h0, h1, h2⟩ := h
  exact ⟨by rw [hb.cell (p := ⟨cb, 0, none⟩) hlt]; exact h0, by rw [hb.cell (p := ⟨cb, 1, none⟩) hlt]; exact h1, by rw [hb.cell (p := ⟨cb, 2, none⟩) hlt]; exact h2⟩
theorem Comb.lt {w : World} {cb : Nat} {a : Option Addr} {len c : Nat} {ord : Int} {n : Nat} (h : Comb w cb a len c ord n) : cb < w.heap.size := by
  refine Decidable.byContradiction fun hn => ?_
  have hno : w.heap[cb]? = none := by simp; omega
  have := h.1
  simp [World.cell?, hno] at this
theorem Own.block {w : World} {a : Option Addr} {ns : List Nat} (h : Own w a ns) (h0 : 0 < ns.length) {B : Nat} (e : a = some ⟨B, 0, none⟩) : Nums w B ns := by
  obtain ⟨G, e2, h1⟩ := h.nums h0
  rw [e] at e2
  simp at e2
  subst e2
  exact h1
end Go.Proofs.Qxb6629158a
