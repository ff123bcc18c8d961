import Derived.Test.Qxb6629158aWk
namespace Go.Proofs.Qxb6629158a
open Go.RowKit
set_option linter.unusedVariables false

set_option maxRecDepth 100000 in
set_option maxHeartbeats 6400000 in
/-- The second law where each place is full. -/
theorem law_full (a : Option Addr) (cap n : Nat) (ns : List Nat) (w : World) (h : Sl w a ns) (hl : ns.length ≤ 65536) (hn : n ≤ 65536) (hi : Pl.Inc ns) (hx : ∀ x ∈ ns, x < n) (hf : Full ns n) :
    Calls Try.prog 4 #[.slice a ns.length cap, .int .i64 (n : Nat)] w fun e w' => e = .returned (.bool true) ∧ Below w.heap.size w w' := by
  have hw : ns.length ≤ n := by
    by_cases c : 0 < ns.length
    · have := hf 0 c; omega
    · omega
  have H : Hid (Sl w a ns ∧ Pl.Inc ns ∧ (∀ x ∈ ns, x < n) ∧ Full ns n) := ⟨h, hi, hx, hf⟩
  obtain ⟨C, hC⟩ : ∃ C, rc ns n = C := ⟨_, rfl⟩
  have hlC : C.length ≤ 65536 := by have := rc_length ns n; rw [hC] at this; omega
  have RC : Hid (rc ns n = C ∧ Pl.Inc C ∧ (∀ x ∈ C, x < n) ∧ Off C n) := by
    refine ⟨hC, ?_⟩
    rw [← hC]
    exact ⟨rc_inc _ _, rc_lt _ _, off_rc hf hx hw⟩
  have hlb : ns.length ≤ 1048576 := by omega
  clear h hi hx hf hC hw
  go_enter Try.func4, Try.ntmps4
  go_wp2_with (first
    | (go_at_call 15; refine (bytes15_yes _ _ _ _ _ hlb).mono ?_; rintro e w' ⟨rfl, hw⟩; obtain rfl := hw)
    | (go_at_call 6; refine (valid_nat _ _ ns n _ H.out.1 hl hn H.out.2.1 H.out.2.2.1).mono ?_; rintro e w' ⟨rfl, q, rfl⟩))
  refine (clone_any _ _ ns _ (H.out.1.below (below_draws _ _ _)) hl).mono ?_
  rintro e w1 ⟨a1, c1, rfl, hb1, ho1, hs1⟩
  have B1 : Hid (Below w.heap.size w w1 ∧ Own w1 a1 ns ∧ (∀ x, a1 = some x → w.heap.size ≤ x.block)) := ⟨(below_draws _ w q).trans hb1, ho1, hs1⟩
  clear hb1 ho1 hs1
  go_wp2_with fail
  refine (clone_any _ _ ns _ B1.out.2.1.sl hl).mono ?_
  rintro e w2 ⟨a2, c2, rfl, hb2, ho2, hs2⟩
  have B2 : Hid (Below w1.heap.size w1 w2 ∧ Own w2 a2 ns ∧ (∀ x, a2 = some x → w1.heap.size ≤ x.block)) := ⟨hb2, ho2, hs2⟩
  clear hb2 ho2 hs2
  go_wp2_with fail
  refine (reflect_any _ _ ns n _ B2.out.2.1.sl hl hn H.out.2.2.1).mono ?_
  rw [RC.out.1]
  rintro e w3 ⟨cB, rfl, hb3, ho3, hs3⟩
  have B3 : Hid (Below w2.heap.size w2 w3 ∧ Own w3 (some ⟨cB, 0, none⟩) C ∧ w2.heap.size ≤ cB) := ⟨hb3, ho3, hs3⟩
  clear hb3 ho3 hs3
  go_wp2_with fail
  refine (clone_any _ _ C _ B3.out.2.1.sl hlC).mono ?_
  rintro e w4 ⟨a4, c4, rfl, hb4, ho4, hs4⟩
  have B4 : Hid (Below w3.heap.size w3 w4 ∧ Own w4 a4 C ∧ (∀ x, a4 = some x → w3.heap.size ≤ x.block)) := ⟨hb4, ho4, hs4⟩
  clear hb4 ho4 hs4
  go_wp2_with fail
  refine (mask_any _ _ C n _ B4.out.2.1.sl hlC hn RC.out.2.2.1).mono ?_
  rintro e w5 ⟨rfl, hb5, hv5⟩
  have B5 : Hid (Below w4.heap.size w4 w5 ∧ Bv w5 w4.heap.size (n + 1) (Pl.msk C)) := ⟨hb5, hv5⟩
  clear hb5 hv5
  go_wp2_with fail
  refine (gos_off _ n _ C _ B5.out.2 hn RC.out.2.1 RC.out.2.2.1 RC.out.2.2.2).mono ?_
  rintro e w6 ⟨rfl, hb6⟩
  have B6 : Hid (Below w5.heap.size w5 w6) := hb6
  clear hb6
  go_wp2_with fail
  refine (newComb_ex _ _ _ _ _ _).mono ?_
  rintro e w7 ⟨cb1, rfl, hb7, hc7, hs7⟩
  have B7 : Hid (Below w6.heap.size w6 w7 ∧ Comb w7 cb1 a1 ns.length c1 0 n) := ⟨hb7, hc7⟩
  clear hb7 hc7 hs7
  have K : Hid (Below w3.heap.size w3 w7 ∧ Below w2.heap.size w2 w7 ∧ Below w1.heap.size w1 w7 ∧ Below w4.heap.size w4 w7) := by
    have k4 := below_chain B5.out.1 (below_chain B6.out B7.out.1)
    have k3 := below_chain B4.out.1 k4
    have k2 := below_chain B3.out.1 k3
    exact ⟨k3, k2, below_chain B2.out.1 k2, k4⟩
  go_wp2_with fail
  refine (ids_full cb1 c1 a1 ns n _ B7.out.2 (B1.out.2.1.below K.out.2.2.1) hl hn H.out.2.2.2).mono ?_
  rintro e w8 ⟨rfl, hq8⟩
  have B8 : Hid (Below w7.heap.size w7 w8 ∧ Comb w8 cb1 a1 ns.length c1 0 n) := ⟨draws_below hq8 _, B7.out.2.below B7.out.2.lt (draws_below hq8 _)⟩
  clear hq8
  have hcc1 : w8.cell? ⟨cb1, 0, none⟩ = some (.slice a1 ns.length c1) := B8.out.2.1
  go_wp2_with fail
  refine (newComb_ex _ _ _ _ _ _).mono ?_
  rintro e w9 ⟨cb2, rfl, hb9, hc9, hs9⟩
  have B9 : Hid (Below w8.heap.size w8 w9 ∧ Comb w9 cb2 (some ⟨cB, 0, none⟩) C.length n 1 n ∧ Own w9 (some ⟨cB, 0, none⟩) C) := ⟨hb9, hc9, (B3.out.2.1.below K.out.1).below (below_chain B8.out.1 hb9)⟩
  clear hb9 hc9 hs9
  go_wp2_with fail
  refine (next_off cb2 n _ C n _ B9.out.2.1 B9.out.2.2 hlC hn RC.out.2.2.1 RC.out.2.2.2).mono ?_
  rintro e w10 ⟨rfl, hb10⟩
  have hcc2 : w10.cell? ⟨cb2, 0, none⟩ = some (.slice (some ⟨cB, 0, none⟩) C.length n) := (B9.out.2.1.below B9.out.2.1.lt hb10).1
  have E : Hid (Sl w10 a1 ns ∧ Sl w10 a2 ns ∧ Sl w10 (some ⟨cB, 0, none⟩) C ∧ Sl w10 a4 C ∧ Below w.heap.size w w10) := by
    have k : Below w7.heap.size w7 w10 := below_chain B8.out.1 (below_chain B9.out.1 hb10)
    exact ⟨(B1.out.2.1.below K.out.2.2.1).sl.below k, (B2.out.2.1.below K.out.2.1).sl.below k, (B3.out.2.1.below K.out.1).sl.below k, (B4.out.2.1.below K.out.2.2.2).sl.below k, below_chain B1.out.1 (below_chain K.out.2.2.1 k)⟩
  clear hb10
  go_wp2_with fail
  refine (equal_yes _ _ _ _ ns _ E.out.1 E.out.2.1 hl).mono ?_
  rintro e w11 ⟨rfl, q11, rfl⟩
  go_wp2_with fail
  refine (equal_yes _ _ _ _ C _ (E.out.2.2.1.below (below_draws _ _ _)) (E.out.2.2.2.1.below (below_draws _ _ _)) hlC).mono ?_
  rintro e w12 ⟨rfl, q12, rfl⟩
  go_wp2
  go_ret
  exact ⟨rfl, E.out.2.2.2.2.trans (below_draws _ _ _)⟩

set_option maxRecDepth 100000 in
set_option maxHeartbeats 6400000 in
/-- The second law where place k is the last that may rise. -/
theorem law_next (a : Option Addr) (cap n : Nat) (ns : List Nat) (k : Nat) (w : World) (h : Sl w a ns) (hl : ns.length ≤ 65536) (hn : n ≤ 65536) (hi : Pl.Inc ns) (hx : ∀ x ∈ ns, x < n) (hb : Bot ns n k) :
    Calls Try.prog 4 #[.slice a ns.length cap, .int .i64 (n : Nat)] w fun e w' => e = .returned (.bool true) ∧ Below w.heap.size w w' := by
  have H : Hid (Sl w a ns ∧ Pl.Inc ns ∧ (∀ x ∈ ns, x < n) ∧ Bot ns n k) := ⟨h, hi, hx, hb⟩
  obtain ⟨kc, hk1, hk2, hk3⟩ := bot_rc hi hx hb
  have hk4 : ∀ x ∈ Pl.nxt (rc ns n) kc, x < n := fun x hm => by
    have hr := hk1.run kc (Nat.le_refl _)
    have := hk1.1
    have := rc_length ns n
    rcases (Pl.mem_nxt hk1 (rc_inc _ _) x).1 hm with c | c | ⟨c, _⟩
    · omega
    · omega
    · exact rc_lt _ _ x c
  obtain ⟨C, hC⟩ : ∃ C, rc ns n = C := ⟨_, rfl⟩
  have hlC : C.length ≤ 65536 := by have := rc_length ns n; rw [hC] at this; omega
  have RC : Hid (rc ns n = C ∧ Pl.Inc C ∧ (∀ x ∈ C, x < n) ∧ Pl.Top C kc ∧ C.getD kc 0 + 1 < n ∧ rc (Pl.nxt C kc) n = bmp ns k ns.length ∧ ∀ x ∈ Pl.nxt C kc, x < n) := by
    refine ⟨hC, ?_⟩
    rw [← hC]
    exact ⟨rc_inc _ _, rc_lt _ _, hk1, hk2, hk3, hk4⟩
  have hlb : ns.length ≤ 1048576 := by omega
  have h0 : 0 < ns.length := by have := hb.1; omega
  have h0C : 0 < C.length := by have := hk1.1; rw [hC] at this; omega
  clear h hi hx hb hC hk1 hk2 hk3 hk4
  go_enter Try.func4, Try.ntmps4
  go_wp2_with (first
    | (go_at_call 15; refine (bytes15_yes _ _ _ _ _ hlb).mono ?_; rintro e w' ⟨rfl, hw⟩; obtain rfl := hw)
    | (go_at_call 6; refine (valid_nat _ _ ns n _ H.out.1 hl hn H.out.2.1 H.out.2.2.1).mono ?_; rintro e w' ⟨rfl, q, rfl⟩))
  refine (clone_any _ _ ns _ (H.out.1.below (below_draws _ _ _)) hl).mono ?_
  rintro e w1 ⟨a1, c1, rfl, hb1, ho1, hs1⟩
  have B1 : Hid (Below w.heap.size w w1 ∧ Own w1 a1 ns ∧ (∀ x, a1 = some x → w.heap.size ≤ x.block)) := ⟨(below_draws _ w q).trans hb1, ho1, hs1⟩
  clear hb1 ho1 hs1
  go_wp2_with fail
  refine (clone_any _ _ ns _ B1.out.2.1.sl hl).mono ?_
  rintro e w2 ⟨a2, c2, rfl, hb2, ho2, hs2⟩
  have B2 : Hid (Below w1.heap.size w1 w2 ∧ Own w2 a2 ns ∧ (∀ x, a2 = some x → w1.heap.size ≤ x.block)) := ⟨hb2, ho2, hs2⟩
  clear hb2 ho2 hs2
  go_wp2_with fail
  refine (reflect_any _ _ ns n _ B2.out.2.1.sl hl hn H.out.2.2.1).mono ?_
  rw [RC.out.1]
  rintro e w3 ⟨cB, rfl, hb3, ho3, hs3⟩
  have B3 : Hid (Below w2.heap.size w2 w3 ∧ Own w3 (some ⟨cB, 0, none⟩) C ∧ w2.heap.size ≤ cB) := ⟨hb3, ho3, hs3⟩
  clear hb3 ho3 hs3
  go_wp2_with fail
  refine (clone_any _ _ C _ B3.out.2.1.sl hlC).mono ?_
  rintro e w4 ⟨a4, c4, rfl, hb4, ho4, hs4⟩
  have B4 : Hid (Below w3.heap.size w3 w4 ∧ Own w4 a4 C ∧ (∀ x, a4 = some x → w3.heap.size ≤ x.block)) := ⟨hb4, ho4, hs4⟩
  clear hb4 ho4 hs4
  go_wp2_with fail
  refine (mask_any _ _ C n _ B4.out.2.1.sl hlC hn RC.out.2.2.1).mono ?_
  rintro e w5 ⟨rfl, hb5, hv5⟩
  have B5 : Hid (Below w4.heap.size w4 w5 ∧ Bv w5 w4.heap.size (n + 1) (Pl.msk C)) := ⟨hb5, hv5⟩
  clear hb5 hv5
  go_wp2_with fail
  refine (gos_on _ n _ kc C _ B5.out.2 hn RC.out.2.1 RC.out.2.2.1 RC.out.2.2.2.1 RC.out.2.2.2.2.1).mono ?_
  rintro e w6 ⟨G', g, rfl, hb6, hv6, hg6⟩
  have B6 : Hid (Below w5.heap.size w5 w6 ∧ Bv w6 G' (n + 1) g ∧ Pl.zones g n = Pl.nxt C kc) := ⟨hb6, hv6, hg6⟩
  clear hb6 hv6 hg6
  go_wp2_with fail
  refine (newComb_ex _ _ _ _ _ _).mono ?_
  rintro e w7 ⟨cb1, rfl, hb7, hc7, hs7⟩
  obtain ⟨zb, rfl, hz1⟩ := B1.out.2.1.nums h0
  obtain ⟨bb, rfl, hz2⟩ := B2.out.2.1.nums h0
  have B7 : Hid (Below w6.heap.size w6 w7 ∧ Comb w7 cb1 (some ⟨zb, 0, none⟩) ns.length c1 0 n ∧ w6.heap.size ≤ cb1) := ⟨hb7, hc7, hs7⟩
  have S : Hid (Nums w1 zb ns ∧ Nums w2 bb ns ∧ Nums w3 cB C ∧ w.heap.size ≤ zb ∧ zb < w1.heap.size ∧ w1.heap.size ≤ bb ∧ bb < w2.heap.size ∧ w2.heap.size ≤ cB ∧ cB < w3.heap.size) := by
    have h3 := B3.out.2.1.block h0C rfl
    exact ⟨hz1, hz2, h3, B1.out.2.2 _ rfl, hz1.lt, B2.out.2.2 _ rfl, hz2.lt, B3.out.2.2, h3.lt⟩
  clear hb7 hc7 hs7 hz1 hz2
  have K : Hid (Below w3.heap.size w3 w7 ∧ Below w2.heap.size w2 w7 ∧ Below w1.heap.size w1 w7 ∧ w1.heap.size ≤ w6.heap.size ∧ w3.heap.size ≤ w6.heap.size ∧ w6.heap.size ≤ w7.heap.size ∧ w1.heap.size ≤ w2.heap.size) := by
    have k5 := below_chain B6.out.1 B7.out.1
    have k4 := below_chain B5.out.1 k5
    have k3 := below_chain B4.out.1 k4
    have k2 := below_chain B3.out.1 k3
    have := B2.out.1.size
    have := B3.out.1.size
    have := B4.out.1.size
    have := B5.out.1.size
    have := B6.out.1.size
    exact ⟨k3, k2, below_chain B2.out.1 k2, by omega, by omega, B7.out.1.size, B2.out.1.size⟩
  go_wp2_with fail
  refine (ids_next cb1 zb c1 ns k n _ B7.out.2.1 (S.out.1.below K.out.2.2.1) (by have := S.out; have := K.out; have := B7.out.2.2; omega) hl hn H.out.2.2.1 H.out.2.2.2).mono ?_
  rintro e w8 ⟨rfl, ho8, hm8⟩
  have B8 : Hid (Only zb w7 w8 ∧ Nums w8 zb (bmp ns k ns.length) ∧ Nums w8 bb ns ∧ Nums w8 cB C ∧ Bv w8 G' (n + 1) g ∧ Comb w7 cb1 (some ⟨zb, 0, none⟩) ns.length c1 0 n) :=
    ⟨ho8, hm8, (S.out.2.1.below K.out.2.1).only ho8 (by have := S.out; omega), (S.out.2.2.1.below K.out.1).only ho8 (by have := S.out; have := K.out; omega), (B6.out.2.1.below B7.out.1).only ho8 (bv_ne (B6.out.2.1.below B7.out.1) (S.out.1.below K.out.2.2.1)), B7.out.2.1⟩
  have hcc1 : w8.cell? ⟨cb1, 0, none⟩ = some (.slice (some ⟨zb, 0, none⟩) ns.length c1) := by
    rw [ho8.cell (p := ⟨cb1, 0, none⟩) (by have := S.out; have := K.out; have := B7.out.2.2; simp; omega)]; exact B7.out.2.1.1
  clear ho8 hm8
  go_wp2_with fail
  refine (newComb_ex _ _ _ _ _ _).mono ?_
  rintro e w9 ⟨cb2, rfl, hb9, hc9, hs9⟩
  have B9 : Hid (Below w8.heap.size w8 w9 ∧ Comb w9 cb2 (some ⟨cB, 0, none⟩) C.length n 1 n ∧ w8.heap.size ≤ cb2 ∧ cB < cb2) := ⟨hb9, hc9, hs9, by have := S.out; have := K.out; have := B8.out.1.size; omega⟩
  clear hb9 hc9 hs9
  go_wp2_with fail
  refine (next_on cb2 cB n C kc n _ B9.out.2.1 (B8.out.2.2.2.1.below B9.out.1) (by have := B9.out.2.2.2; omega) hlC hn RC.out.2.2.2.1 RC.out.2.2.1 RC.out.2.2.2.2.1).mono ?_
  rintro e w10 ⟨r10, rfl, ho10, hm10⟩
  have hcc2 : w10.cell? ⟨cb2, 0, none⟩ = some (.slice (some ⟨cB, 0, none⟩) C.length n) := by
    rw [ho10.cell (p := ⟨cb2, 0, none⟩) (by have := B9.out.2.2.2; simp; omega)]; exact B9.out.2.1.1
  have E : Hid (Nums w10 zb (bmp ns k ns.length) ∧ Nums w10 bb ns ∧ Nums w10 cB (Pl.nxt C kc) ∧ Bv w10 G' (n + 1) g ∧ Below w.heap.size w w10) := by
    have b9 := B9.out.1
    refine ⟨(B8.out.2.1.below b9).only ho10 (by have := S.out; have := K.out; omega), (B8.out.2.2.1.below b9).only ho10 (by have := S.out; omega), hm10, (B8.out.2.2.2.2.1.below b9).only ho10 (bv_ne (B8.out.2.2.2.2.1.below b9) (B8.out.2.2.2.1.below b9)), ?_⟩
    have k7 := below_chain B1.out.1 K.out.2.2.1
    have k8 : Below w.heap.size w w8 := k7.trans (B8.out.1.below S.out.2.2.2.1)
    have k9 := below_chain k8 b9
    exact k9.trans (ho10.below (by have := S.out; have := K.out; omega))
  clear ho10 hm10
  go_wp2_with fail
  refine (zonesOf_any G' (n + 1) (n + 1) n g _ E.out.2.2.2.1 (by omega) hn (by omega)).mono ?_
  rw [B6.out.2.2, Pl.nxt_length]
  rintro e w11 ⟨rfl, hb11, ho11⟩
  have F : Hid (Sl w11 (some ⟨zb, 0, none⟩) (bmp ns k ns.length) ∧ Sl w11 (some ⟨bb, 0, none⟩) ns ∧ Sl w11 (some ⟨cB, 0, none⟩) (Pl.nxt C kc) ∧ Sl w11 (some ⟨w10.heap.size, 0, none⟩) (Pl.nxt C kc) ∧ Below w.heap.size w w11) :=
    ⟨E.out.1.sl.below hb11, E.out.2.1.sl.below hb11, E.out.2.2.1.sl.below hb11, ho11.sl, below_chain E.out.2.2.2.2 hb11⟩
  obtain ⟨fb, hfb⟩ : ∃ fb, fb = w10.heap.size := ⟨_, rfl⟩
  rw [← hfb] at F ⊢
  have hcc3 : w11.cell? ⟨cb2, 0, none⟩ = some (.slice (some ⟨cB, 0, none⟩) C.length n) := by
    have hlt : cb2 < w10.heap.size := by
      refine Decidable.byContradiction fun hno => ?_
      have : w10.heap[cb2]? = none := by simp; omega
      simp [World.cell?, this] at hcc2
    rw [hb11.cell (p := ⟨cb2, 0, none⟩) hlt]; exact hcc2
  clear hb11 ho11 hcc1 hcc2 hfb
  have heq := equal_yes (some ⟨cB, 0, none⟩) (some ⟨fb, 0, none⟩) n n (Pl.nxt C kc) w11 F.out.2.2.1 F.out.2.2.2.1 (by rw [Pl.nxt_length]; exact hlC)
  rw [Pl.nxt_length] at heq
  have EQ : Hid (Calls Try.prog 12 #[.slice (some ⟨cB, 0, none⟩) C.length n, .slice (some ⟨fb, 0, none⟩) C.length n] w11 fun e w' => e = .returned (.bool true) ∧ ∃ q, w' = w11.drewN q) := heq
  clear heq
  go_wp2_with fail
  refine EQ.out.mono ?_
  rintro e w12 ⟨rfl, hq12⟩
  have F2 : Hid (Sl w12 (some ⟨zb, 0, none⟩) (bmp ns k ns.length) ∧ Sl w12 (some ⟨bb, 0, none⟩) ns ∧ Sl w12 (some ⟨fb, 0, none⟩) (Pl.nxt C kc) ∧ Below w.heap.size w w12) :=
    ⟨F.out.1.below (draws_below hq12 _), F.out.2.1.below (draws_below hq12 _), F.out.2.2.2.1.below (draws_below hq12 _), F.out.2.2.2.2.trans (draws_below hq12 _)⟩
  clear hq12
  have hrf := reflect_any (some ⟨fb, 0, none⟩) n (Pl.nxt C kc) n w12 F2.out.2.2.1 (by rw [Pl.nxt_length]; exact hlC) hn RC.out.2.2.2.2.2.2
  rw [RC.out.2.2.2.2.2.1, Pl.nxt_length, bmp_length] at hrf
  have RF : Hid (Calls Try.prog 16 #[.slice (some ⟨fb, 0, none⟩) C.length n, .int .i64 n] w12 fun e w' => ∃ B, e = .returned (.slice (some ⟨B, 0, none⟩) ns.length n) ∧ Below w12.heap.size w12 w' ∧ Own w' (some ⟨B, 0, none⟩) (bmp ns k ns.length) ∧ w12.heap.size ≤ B) := hrf
  clear hrf
  go_wp2_with fail
  refine RF.out.mono ?_
  rintro e w13 ⟨rB, rfl, hb13, ho13, hs13⟩
  have F3 : Hid (Sl w13 (some ⟨zb, 0, none⟩) (bmp ns k ns.length) ∧ Sl w13 (some ⟨bb, 0, none⟩) ns ∧ Sl w13 (some ⟨rB, 0, none⟩) (bmp ns k ns.length) ∧ Below w.heap.size w w13) :=
    ⟨F2.out.1.below hb13, F2.out.2.1.below hb13, ho13.sl, below_chain F2.out.2.2.2 hb13⟩
  clear hb13 ho13 hs13
  have heq2 := equal_yes (some ⟨zb, 0, none⟩) (some ⟨rB, 0, none⟩) c1 n (bmp ns k ns.length) w13 F3.out.1 F3.out.2.2.1 (by rw [bmp_length]; exact hl)
  rw [bmp_length] at heq2
  have EQ2 : Hid (Calls Try.prog 12 #[.slice (some ⟨zb, 0, none⟩) ns.length c1, .slice (some ⟨rB, 0, none⟩) ns.length n] w13 fun e w' => e = .returned (.bool true) ∧ ∃ q, w' = w13.drewN q) := heq2
  clear heq2
  go_wp2_with fail
  refine EQ2.out.mono ?_
  rintro e w14 ⟨rfl, hq14⟩
  have F4 : Hid (Sl w14 (some ⟨zb, 0, none⟩) (bmp ns k ns.length) ∧ Sl w14 (some ⟨bb, 0, none⟩) ns ∧ Below w.heap.size w w14) :=
    ⟨F3.out.1.below (draws_below hq14 _), F3.out.2.1.below (draws_below hq14 _), F3.out.2.2.2.trans (draws_below hq14 _)⟩
  clear hq14
  have hdf := diff_any (some ⟨bb, 0, none⟩) (some ⟨zb, 0, none⟩) c2 c1 ns (bmp ns k ns.length) k w14 F4.out.2.1 F4.out.1 hl (by rw [bmp_length]; exact hl) H.out.2.2.2.1 (by rw [bmp_length]; exact H.out.2.2.2.1) (bmp_diff H.out.2.2.2.1).1 (bmp_diff H.out.2.2.2.1).2
  rw [bmp_length] at hdf
  have DF : Hid (Calls Try.prog 14 #[.slice (some ⟨bb, 0, none⟩) ns.length c2, .slice (some ⟨zb, 0, none⟩) ns.length c1] w14 fun e w' => e = .returned (.int .i64 k) ∧ ∃ q, w' = w14.drewN q) := hdf
  clear hdf
  have hdd : ((k : Int) == (k : Int)) = true := by simp
  go_wp2_with fail
  refine DF.out.mono ?_
  rintro e w15 ⟨rfl, q15, rfl⟩
  go_wp2
  go_ret
  exact ⟨rfl, F4.out.2.2.trans (below_draws _ _ _)⟩
end Go.Proofs.Qxb6629158a
