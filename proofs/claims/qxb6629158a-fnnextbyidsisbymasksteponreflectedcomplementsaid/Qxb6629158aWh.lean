import Derived.Test.Qxb6629158aWg
namespace Go.Proofs.Qxb6629158a
open Go.RowKit
set_option linter.unusedVariables false

theorem valid_nat (a : Option Addr) (cap : Nat) (ns : List Nat) (n : Nat) (w : World) (h : Sl w a ns) (hl : ns.length ≤ 65536) (hn : n ≤ 65536) (hi : Pl.Inc ns) (hx : ∀ x ∈ ns, x < n) :
    Calls Try.prog 6 #[.slice a ns.length cap, .int .i64 (n : Nat)] w fun e w' => e = .returned (.bool true) ∧ ∃ q, w' = w.drewN q := by
  have hg : ∀ i, i < ns.length → (ns.map (fun x : Nat => (x : Int))).getD i 0 = (ns.getD i 0 : Nat) := fun i hi => by simp [List.getD_eq_getElem?_getD, hi]
  have := valid_yes a cap (ns.map (fun x : Nat => (x : Int))) n w (fun i hi => by
      have hi' : i < ns.length := by simpa using hi
      obtain ⟨b, off, e, hlt, hc⟩ := h i hi'
      exact ⟨b, off, e, hlt, by rw [hg i hi']; exact hc⟩) (by simpa using hl) (by omega) (by omega) ⟨fun i hi1 => by
      have hi' : i < ns.length := by simpa using hi1
      rw [hg i hi']
      have := hx _ (Pl.getD_mem hi')
      omega, fun i hi1 => by
      have hi' : i + 1 < ns.length := by simpa using hi1
      rw [hg i (by omega), hg (i + 1) hi']
      have := hi.lt (show i < i + 1 by omega) hi'
      omega⟩
  simpa using this

/-- The first place at which a list and its next differ. -/
theorem diff_place {l : List Nat} {k : Nat} (h : Pl.Top l k) (d : Nat) (hd : (l.getD 0 0 = 0 ∧ d = k) ∨ (l.getD 0 0 ≠ 0 ∧ d = 0)) :
    d < l.length ∧ (∀ j, j < d → l.getD j 0 = (Pl.nxt l k).getD j 0) ∧ l.getD d 0 ≠ (Pl.nxt l k).getD d 0 := by
  have hk := h.1
  have hr := h.run
  rcases hd with ⟨h0, rfl⟩ | ⟨h0, rfl⟩
  · refine ⟨hk, fun j hj => ?_, ?_⟩
    · rw [Pl.nxt_get l d j (by omega), if_pos hj]; have := hr j (by omega); omega
    · rw [Pl.nxt_get l d d hk, if_neg (by omega), if_pos rfl]; omega
  · refine ⟨by omega, fun j hj => absurd hj (Nat.not_lt_zero _), ?_⟩
    rw [Pl.nxt_get l k 0 (by omega)]
    by_cases c : 0 < k
    · rw [if_pos c]; exact h0
    · rw [if_neg c, if_pos (by omega)]
      have : k = 0 := by omega
      subst this; omega

set_option maxHeartbeats 3200000 in
/-- The first law where there is no zone. -/
theorem mask_empty (a : Option Addr) (cap n : Nat) (w : World) (hn : n ≤ 65536) :
    Calls Try.prog 3 #[.slice a 0 cap, .int .i64 (n : Nat)] w fun e w' => e = .returned (.bool true) ∧ Below w.heap.size w w' := by
  obtain ⟨ns, hns⟩ : ∃ ns : List Nat, ns = [] := ⟨_, rfl⟩
  have e0 : 0 = ns.length := by rw [hns]; rfl
  rw [e0]
  have H : Hid (Sl w a ns ∧ Pl.Inc ns ∧ (∀ x ∈ ns, x < n) ∧ ns = []) := ⟨by rw [hns]; exact fun i hi => absurd hi (Nat.not_lt_zero _), by rw [hns]; exact List.Pairwise.nil, by rw [hns]; simp, hns⟩
  have hl : ns.length ≤ 65536 := by omega
  have hlb : ns.length ≤ 1048576 := by omega
  have HE : Hid (ns.length = 0) := e0.symm
  clear e0 hns
  go_enter Try.func3, Try.ntmps3
  go_wp2_with (first
    | (go_at_call 5; refine (bytes5_yes _ _ _ _ _ hlb).mono ?_; rintro e w' ⟨rfl, hw⟩; obtain rfl := hw)
    | (go_at_call 6; refine (valid_nat _ _ ns n _ H.out.1 hl hn H.out.2.1 H.out.2.2.1).mono ?_; rintro e w' ⟨rfl, q, rfl⟩))
  refine (clone_any _ _ ns _ (H.out.1.below (below_draws _ _ _)) hl).mono ?_
  rintro e w1 ⟨a1, c1, rfl, hb1, ho1, hs1⟩
  have B1 : Hid (Below w.heap.size w w1 ∧ Own w1 a1 ns ∧ (∀ x, a1 = some x → w.heap.size ≤ x.block)) := ⟨(below_draws _ w q).trans hb1, ho1, hs1⟩
  clear hb1 ho1 hs1
  go_wp2_with fail
  refine (clone_any _ _ ns _ B1.out.2.1.sl hl).mono ?_
  rintro e w2 ⟨a2, c2, rfl, hb2, ho2, hs2⟩
  have B2 : Hid (Below w1.heap.size w1 w2 ∧ Own w2 a2 ns ∧ (∀ x, a2 = some x → w1.heap.size ≤ x.block)) := ⟨hb2, ho2, hs2⟩
  clear hb2 ho2 hs2
  go_wp2_with fail
  refine (mask_any _ _ ns n _ B2.out.2.1.sl hl hn H.out.2.2.1).mono ?_
  rintro e w3 ⟨rfl, hb3, hv3⟩
  have B3 : Hid (Below w2.heap.size w2 w3 ∧ Bv w3 w2.heap.size (n + 1) (Pl.msk ns)) := ⟨hb3, hv3⟩
  clear hb3 hv3
  go_wp2_with fail
  refine (gos_none _ n _ (Pl.msk ns) _ B3.out.2 hn (fun i _ => by rw [H.out.2.2.2]; simp [Pl.msk])).mono ?_
  rintro e w4 ⟨rfl, hb4⟩
  have B4 : Hid (Below w3.heap.size w3 w4 ∧ True) := ⟨hb4, trivial⟩
  clear hb4
  go_wp2_with fail
  refine (newComb_any _ _ _ _ _ _).mono ?_
  rintro e w5 ⟨rfl, hb5, hc5, hz5⟩
  have B5 : Hid (Below w4.heap.size w4 w5 ∧ Comb w5 w4.heap.size a1 ns.length c1 1 n ∧ w5.heap.size = w4.heap.size + 1) := ⟨hb5, hc5, hz5⟩
  clear hb5 hc5 hz5
  have K : Hid (Below w1.heap.size w1 w4 ∧ Below w2.heap.size w2 w4 ∧ Below w1.heap.size w1 w5 ∧ Below w2.heap.size w2 w5) := ⟨below_chain B2.out.1 (below_chain B3.out.1 B4.out.1), below_chain B3.out.1 B4.out.1, below_chain (below_chain B2.out.1 (below_chain B3.out.1 B4.out.1)) B5.out.1, below_chain (below_chain B3.out.1 B4.out.1) B5.out.1⟩
  go_wp2_with fail
  refine (next_empty w4.heap.size a1 c1 n _ (by have := B5.out.2.1; rwa [HE.out] at this)).mono ?_
  rintro e w6 ⟨rfl, q2, rfl⟩
  have hcc : w5.cell? ⟨w4.heap.size, 0, none⟩ = some (.slice a1 ns.length c1) := B5.out.2.1.1
  have E6 : Hid (Sl (w5.drewN q2) a1 ns ∧ Sl (w5.drewN q2) a2 ns ∧ Below w.heap.size w (w5.drewN q2)) := ⟨(B1.out.2.1.sl.below K.out.2.2.1).below (below_draws _ _ _), (B2.out.2.1.sl.below K.out.2.2.2).below (below_draws _ _ _), (below_chain B1.out.1 K.out.2.2.1).trans (below_draws _ _ _)⟩
  go_wp2_with fail
  refine (equal_yes _ _ _ _ ns _ E6.out.1 E6.out.2.1 hl).mono ?_
  rintro e w7 ⟨rfl, q3, rfl⟩
  go_wp2
  go_ret
  exact ⟨rfl, (below_chain B1.out.1 K.out.2.2.1).trans (below_draws _ _ _)⟩

set_option maxHeartbeats 3200000 in
/-- The first law where the top of the lowest run is the last zone. -/
theorem mask_last (a : Option Addr) (cap n : Nat) (ns : List Nat) (k : Nat) (w : World) (h : Sl w a ns) (hl : ns.length ≤ 65536) (hn : n ≤ 65536) (hi : Pl.Inc ns) (hx : ∀ x ∈ ns, x < n) (hk : Pl.Top ns k) (hlast : ns.getD k 0 + 1 = n) :
    Calls Try.prog 3 #[.slice a ns.length cap, .int .i64 (n : Nat)] w fun e w' => e = .returned (.bool true) ∧ Below w.heap.size w w' := by
  have hm := hk.mem hi
  have hr := hk.run k (Nat.le_refl _)
  have H : Hid (Sl w a ns ∧ Pl.Inc ns ∧ (∀ x ∈ ns, x < n) ∧ Pl.Top ns k ∧ ns.getD k 0 + 1 = n) := ⟨h, hi, hx, hk, hlast⟩
  have M : Hid (Pl.msk ns (ns.getD 0 0) = true ∧ (∀ i, i < ns.getD 0 0 → Pl.msk ns i = false) ∧ ns.getD 0 0 < n + 1 ∧ Pl.sm (Pl.msk ns) (Pl.one (ns.getD 0 0)) n = true) := by
    refine ⟨decide_eq_true ((hm _).2.1 (Nat.le_refl _) (by omega)), fun i c => decide_eq_false ((hm i).1 c), by omega, ?_⟩
    rw [Pl.sm_run (v := Pl.msk ns) (r := k + 1) (fun i c => decide_eq_false ((hm i).1 c)) (fun i c1 c2 => decide_eq_true ((hm i).2.1 c1 (by omega))) (decide_eq_false ((hm _).2.2 (by omega))) (by omega)]
    rw [decide_eq_true (show n = ns.getD 0 0 + (k + 1) by omega)]; rfl
  have hlb : ns.length ≤ 1048576 := by omega
  have h0 : 0 < ns.length := by have := hk.1; omega
  clear h hi hx hk hlast hm hr
  go_enter Try.func3, Try.ntmps3
  go_wp2_with (first
    | (go_at_call 5; refine (bytes5_yes _ _ _ _ _ hlb).mono ?_; rintro e w' ⟨rfl, hw⟩; obtain rfl := hw)
    | (go_at_call 6; refine (valid_nat _ _ ns n _ H.out.1 hl hn H.out.2.1 H.out.2.2.1).mono ?_; rintro e w' ⟨rfl, q, rfl⟩))
  refine (clone_any _ _ ns _ (H.out.1.below (below_draws _ _ _)) hl).mono ?_
  rintro e w1 ⟨a1, c1, rfl, hb1, ho1, hs1⟩
  have B1 : Hid (Below w.heap.size w w1 ∧ Own w1 a1 ns ∧ (∀ x, a1 = some x → w.heap.size ≤ x.block)) := ⟨(below_draws _ w q).trans hb1, ho1, hs1⟩
  clear hb1 ho1 hs1
  go_wp2_with fail
  refine (clone_any _ _ ns _ B1.out.2.1.sl hl).mono ?_
  rintro e w2 ⟨a2, c2, rfl, hb2, ho2, hs2⟩
  have B2 : Hid (Below w1.heap.size w1 w2 ∧ Own w2 a2 ns ∧ (∀ x, a2 = some x → w1.heap.size ≤ x.block)) := ⟨hb2, ho2, hs2⟩
  clear hb2 ho2 hs2
  go_wp2_with fail
  refine (mask_any _ _ ns n _ B2.out.2.1.sl hl hn H.out.2.2.1).mono ?_
  rintro e w3 ⟨rfl, hb3, hv3⟩
  have B3 : Hid (Below w2.heap.size w2 w3 ∧ Bv w3 w2.heap.size (n + 1) (Pl.msk ns)) := ⟨hb3, hv3⟩
  clear hb3 hv3
  go_wp2_with fail
  refine (gos_over _ n _ (ns.getD 0 0) (Pl.msk ns) _ B3.out.2 hn M.out.2.2.1 M.out.1 M.out.2.1 M.out.2.2.2).mono ?_
  rintro e w4 ⟨rfl, hb4⟩
  have B4 : Hid (Below w3.heap.size w3 w4 ∧ True) := ⟨hb4, trivial⟩
  clear hb4
  go_wp2_with fail
  refine (newComb_any _ _ _ _ _ _).mono ?_
  rintro e w5 ⟨rfl, hb5, hc5, hz5⟩
  have B5 : Hid (Below w4.heap.size w4 w5 ∧ Comb w5 w4.heap.size a1 ns.length c1 1 n ∧ w5.heap.size = w4.heap.size + 1) := ⟨hb5, hc5, hz5⟩
  clear hb5 hc5 hz5
  have K : Hid (Below w1.heap.size w1 w4 ∧ Below w2.heap.size w2 w4 ∧ Below w1.heap.size w1 w5 ∧ Below w2.heap.size w2 w5) := ⟨below_chain B2.out.1 (below_chain B3.out.1 B4.out.1), below_chain B3.out.1 B4.out.1, below_chain (below_chain B2.out.1 (below_chain B3.out.1 B4.out.1)) B5.out.1, below_chain (below_chain B3.out.1 B4.out.1) B5.out.1⟩
  go_wp2_with fail
  obtain ⟨zb, rfl, hz1⟩ := B1.out.2.1.nums h0
  have Z : Hid (Nums w1 zb ns) := hz1
  clear hz1
  refine (next_last w4.heap.size zb c1 ns k n _ B5.out.2.1 (Z.out.below K.out.2.2.1) hl hn H.out.2.2.2.1 H.out.2.2.1 H.out.2.2.2.2).mono ?_
  rintro e w6 ⟨rfl, q2, rfl⟩
  have hcc : w5.cell? ⟨w4.heap.size, 0, none⟩ = some (.slice (some ⟨zb, 0, none⟩) ns.length c1) := B5.out.2.1.1
  have E6 : Hid (Sl (w5.drewN q2) (some ⟨zb, 0, none⟩) ns ∧ Sl (w5.drewN q2) a2 ns ∧ Below w.heap.size w (w5.drewN q2)) := ⟨(B1.out.2.1.sl.below K.out.2.2.1).below (below_draws _ _ _), (B2.out.2.1.sl.below K.out.2.2.2).below (below_draws _ _ _), (below_chain B1.out.1 K.out.2.2.1).trans (below_draws _ _ _)⟩
  go_wp2_with fail
  refine (equal_yes _ _ _ _ ns _ E6.out.1 E6.out.2.1 hl).mono ?_
  rintro e w7 ⟨rfl, q3, rfl⟩
  go_wp2
  go_ret
  exact ⟨rfl, (below_chain B1.out.1 K.out.2.2.1).trans (below_draws _ _ _)⟩

set_option maxHeartbeats 3200000 in
/-- The first law where there is a next. -/
theorem mask_next (a : Option Addr) (cap n : Nat) (ns : List Nat) (k : Nat) (w : World) (h : Sl w a ns) (hl : ns.length ≤ 65536) (hn : n ≤ 65536) (hi : Pl.Inc ns) (hx : ∀ x ∈ ns, x < n) (hk : Pl.Top ns k) (hlast : ns.getD k 0 + 1 < n) :
    Calls Try.prog 3 #[.slice a ns.length cap, .int .i64 (n : Nat)] w fun e w' => e = .returned (.bool true) ∧ Below w.heap.size w w' := by
  have hm := hk.mem hi
  have hr := hk.run k (Nat.le_refl _)
  obtain ⟨d, hd⟩ : ∃ d, (ns.getD 0 0 = 0 ∧ d = k) ∨ (ns.getD 0 0 ≠ 0 ∧ d = 0) := by
    by_cases c : ns.getD 0 0 = 0
    · exact ⟨k, .inl ⟨c, rfl⟩⟩
    · exact ⟨0, .inr ⟨c, rfl⟩⟩
  have H : Hid (Sl w a ns ∧ Pl.Inc ns ∧ (∀ x ∈ ns, x < n) ∧ Pl.Top ns k ∧ ns.getD k 0 + 1 < n ∧ ((ns.getD 0 0 = 0 ∧ (d : Int) = k) ∨ (ns.getD 0 0 ≠ 0 ∧ (d : Int) = 0))) := ⟨h, hi, hx, hk, hlast, by rcases hd with ⟨h1, h2⟩ | ⟨h1, h2⟩; exact .inl ⟨h1, by omega⟩; exact .inr ⟨h1, by omega⟩⟩
  have D : Hid (d < ns.length ∧ (∀ j, j < d → ns.getD j 0 = (Pl.nxt ns k).getD j 0) ∧ ns.getD d 0 ≠ (Pl.nxt ns k).getD d 0) := diff_place hk d hd
  have M : Hid (Pl.msk ns (ns.getD 0 0) = true ∧ (∀ i, i < ns.getD 0 0 → Pl.msk ns i = false) ∧ ns.getD 0 0 < n + 1 ∧ Pl.sm (Pl.msk ns) (Pl.one (ns.getD 0 0)) n = false) := by
    refine ⟨decide_eq_true ((hm _).2.1 (Nat.le_refl _) (by omega)), fun i c => decide_eq_false ((hm i).1 c), by omega, ?_⟩
    rw [Pl.sm_run (v := Pl.msk ns) (r := k + 1) (fun i c => decide_eq_false ((hm i).1 c)) (fun i c1 c2 => decide_eq_true ((hm i).2.1 c1 (by omega))) (decide_eq_false ((hm _).2.2 (by omega))) (by omega)]
    have : Pl.msk ns n = false := decide_eq_false fun h => Nat.lt_irrefl _ (hx n h)
    rw [decide_eq_false (show ¬ n = ns.getD 0 0 + (k + 1) by omega), this]; simp
  have ZN : Hid (Pl.zones (Pl.gos (Pl.msk ns) (ns.getD 0 0) (n + 1)) n = Pl.nxt ns k) := Pl.gos_zones hk hi hx (by omega)
  have hlb : ns.length ≤ 1048576 := by omega
  have h0 : 0 < ns.length := by have := hk.1; omega
  clear h hi hx hk hlast hm hr hd
  go_enter Try.func3, Try.ntmps3
  go_wp2_with (first
    | (go_at_call 5; refine (bytes5_yes _ _ _ _ _ hlb).mono ?_; rintro e w' ⟨rfl, hw⟩; obtain rfl := hw)
    | (go_at_call 6; refine (valid_nat _ _ ns n _ H.out.1 hl hn H.out.2.1 H.out.2.2.1).mono ?_; rintro e w' ⟨rfl, q, rfl⟩))
  refine (clone_any _ _ ns _ (H.out.1.below (below_draws _ _ _)) hl).mono ?_
  rintro e w1 ⟨a1, c1, rfl, hb1, ho1, hs1⟩
  have B1 : Hid (Below w.heap.size w w1 ∧ Own w1 a1 ns ∧ (∀ x, a1 = some x → w.heap.size ≤ x.block)) := ⟨(below_draws _ w q).trans hb1, ho1, hs1⟩
  clear hb1 ho1 hs1
  go_wp2_with fail
  refine (clone_any _ _ ns _ B1.out.2.1.sl hl).mono ?_
  rintro e w2 ⟨a2, c2, rfl, hb2, ho2, hs2⟩
  have B2 : Hid (Below w1.heap.size w1 w2 ∧ Own w2 a2 ns ∧ (∀ x, a2 = some x → w1.heap.size ≤ x.block)) := ⟨hb2, ho2, hs2⟩
  clear hb2 ho2 hs2
  go_wp2_with fail
  refine (mask_any _ _ ns n _ B2.out.2.1.sl hl hn H.out.2.2.1).mono ?_
  rintro e w3 ⟨rfl, hb3, hv3⟩
  have B3 : Hid (Below w2.heap.size w2 w3 ∧ Bv w3 w2.heap.size (n + 1) (Pl.msk ns)) := ⟨hb3, hv3⟩
  clear hb3 hv3
  go_wp2_with fail
  refine (gos_yes _ n _ (ns.getD 0 0) (Pl.msk ns) _ B3.out.2 hn M.out.2.2.1 M.out.1 M.out.2.1 M.out.2.2.2).mono ?_
  rintro e w4 ⟨G', rfl, hb4, hv4⟩
  have B4 : Hid (Below w3.heap.size w3 w4 ∧ Bv w4 G' (n + 1) (Pl.gos (Pl.msk ns) (ns.getD 0 0) (n + 1))) := ⟨hb4, hv4⟩
  clear hb4 hv4
  go_wp2_with fail
  refine (newComb_any _ _ _ _ _ _).mono ?_
  rintro e w5 ⟨rfl, hb5, hc5, hz5⟩
  have B5 : Hid (Below w4.heap.size w4 w5 ∧ Comb w5 w4.heap.size a1 ns.length c1 1 n ∧ w5.heap.size = w4.heap.size + 1) := ⟨hb5, hc5, hz5⟩
  clear hb5 hc5 hz5
  have K : Hid (Below w1.heap.size w1 w4 ∧ Below w2.heap.size w2 w4 ∧ Below w1.heap.size w1 w5 ∧ Below w2.heap.size w2 w5) := ⟨below_chain B2.out.1 (below_chain B3.out.1 B4.out.1), below_chain B3.out.1 B4.out.1, below_chain (below_chain B2.out.1 (below_chain B3.out.1 B4.out.1)) B5.out.1, below_chain (below_chain B3.out.1 B4.out.1) B5.out.1⟩
  go_wp2_with fail
  obtain ⟨zb, rfl, hz1⟩ := B1.out.2.1.nums h0
  have Z : Hid (Nums w1 zb ns ∧ w.heap.size ≤ zb) := ⟨hz1, B1.out.2.2 _ rfl⟩
  clear hz1
  refine (next_next w4.heap.size zb c1 ns k n d _ B5.out.2.1 (Z.out.1.below K.out.2.2.1) (by have := Z.out.1.lt; have := K.out.1.size; omega) hl hn H.out.2.2.2.1 H.out.2.2.1 H.out.2.2.2.2.1 H.out.2.2.2.2.2).mono ?_
  rintro e w6 ⟨rfl, ho6, hm6⟩
  have E6 : Hid (Only zb w5 w6 ∧ Nums w6 zb (Pl.nxt ns k) ∧ Sl w6 a2 ns ∧ Bv w6 G' (n + 1) (Pl.gos (Pl.msk ns) (ns.getD 0 0) (n + 1)) ∧ Below w.heap.size w w6) := by
    have hzl := Z.out.1.lt
    refine ⟨ho6, hm6, ho6.sl (B2.out.2.1.sl.below K.out.2.2.2) (fun x hx => by have := B2.out.2.2 x hx; omega), ?_, (below_chain B1.out.1 K.out.2.2.1).trans (ho6.below Z.out.2)⟩
    have hG : G' ≠ zb := fun e => by
      subst e
      obtain ⟨c1', hh1, _⟩ := (B4.out.2.below B5.out.1)
      obtain ⟨m, f, ⟨c2', hh2, _⟩, _⟩ := (Z.out.1.below K.out.2.2.1)
      rw [hh1] at hh2
      simp at hh2
    exact World.rowIs.of_block (B4.out.2.below B5.out.1) (ho6.block _ hG)
  have hcc : w6.cell? ⟨w4.heap.size, 0, none⟩ = some (.slice (some ⟨zb, 0, none⟩) ns.length c1) := by
    rw [ho6.cell (p := ⟨w4.heap.size, 0, none⟩) (by have := Z.out.1.lt; have := K.out.1.size; simp; omega)]; exact B5.out.2.1.1
  clear ho6 hm6
  go_wp2_with fail
  refine (zonesOf_any G' (n + 1) (n + 1) n _ _ E6.out.2.2.2.1 (by omega) hn (by omega)).mono ?_
  rw [ZN.out, Pl.nxt_length]
  rintro e w7 ⟨rfl, hb7, ho7⟩
  have E7 : Hid (Below w6.heap.size w6 w7 ∧ Sl w7 (some ⟨w6.heap.size, 0, none⟩) (Pl.nxt ns k) ∧ Sl w7 (some ⟨zb, 0, none⟩) (Pl.nxt ns k) ∧ Sl w7 a2 ns ∧ Below w.heap.size w w7) := ⟨hb7, ho7.sl, E6.out.2.1.sl.below hb7, E6.out.2.2.1.below hb7, below_chain E6.out.2.2.2.2 hb7⟩
  clear hb7 ho7
  have heq := equal_yes (some ⟨zb, 0, none⟩) (some ⟨w6.heap.size, 0, none⟩) c1 n (Pl.nxt ns k) w7 E7.out.2.2.1 E7.out.2.1 (by rw [Pl.nxt_length]; exact hl)
  rw [Pl.nxt_length] at heq
  have EQ : Hid (Calls Try.prog 12 #[.slice (some ⟨zb, 0, none⟩) ns.length c1, .slice (some ⟨w6.heap.size, 0, none⟩) ns.length n] w7 fun e w' => e = .returned (.bool true) ∧ ∃ q, w' = w7.drewN q) := heq
  clear heq
  go_wp2_with fail
  refine EQ.out.mono ?_
  rintro e w8 ⟨rfl, q8, rfl⟩
  have hdf := diff_any a2 (some ⟨zb, 0, none⟩) c2 c1 ns (Pl.nxt ns k) d (w7.drewN q8) (E7.out.2.2.2.1.below (below_draws _ _ _)) (E7.out.2.2.1.below (below_draws _ _ _)) hl (by rw [Pl.nxt_length]; exact hl) D.out.1 (by rw [Pl.nxt_length]; exact D.out.1) D.out.2.1 D.out.2.2
  rw [Pl.nxt_length] at hdf
  have DF : Hid (Calls Try.prog 14 #[.slice a2 ns.length c2, .slice (some ⟨zb, 0, none⟩) ns.length c1] (w7.drewN q8) fun e w' => e = .returned (.int .i64 d) ∧ ∃ q, w' = (w7.drewN q8).drewN q) := hdf
  clear hdf
  have hdd : ((d : Int) == (d : Int)) = true := by simp
  go_wp2_with fail
  refine DF.out.mono ?_
  rintro e w9 ⟨rfl, q9, rfl⟩
  go_wp2
  go_ret
  exact ⟨rfl, E7.out.2.2.2.2.trans (below_draws _ _ _)⟩
end Go.Proofs.Qxb6629158a
