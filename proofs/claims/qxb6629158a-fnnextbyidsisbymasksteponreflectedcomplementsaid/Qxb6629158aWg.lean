import Derived.Test.Qxb6629158aWf
namespace Go.Proofs.Qxb6629158a
open Go.RowKit
set_option linter.unusedVariables false

theorem newComb_any (a : Option Addr) (len c : Nat) (ord : Int) (n : Nat) (w : World) :
    Calls Try.prog 10 #[.slice a len c, .int .i64 ord, .int .i64 n] w fun e w' => e = .returned (.pointer (some ⟨w.heap.size, 0, none⟩)) ∧ Below w.heap.size w w' ∧ Comb w' w.heap.size a len c ord n ∧ w'.heap.size = w.heap.size + 1 := by
  go_enter Try.func10, Try.ntmps10
  go_wp2
  go_ret
  exact ⟨rfl, (Below.refl _ _).alloc (Nat.le_refl _) _, ⟨by simp [go_sem], by simp [go_sem], by simp [go_sem]⟩, by simp⟩

theorem next_empty (cb : Nat) (a : Option Addr) (c : Nat) (n : Nat) (w : World) (h : Comb w cb a 0 c 1 n) :
    Calls Try.prog 11 #[.pointer (some ⟨cb, 0, none⟩)] w fun e w' => e = .returned (.tuple #[.int .i64 0, .bool false]) ∧ ∃ q, w' = w.drewN q := by
  have H : Hid (Comb w cb a 0 c 1 n) := h
  obtain ⟨h0, h1, h2⟩ := h
  go_enter Try.func11, Try.ntmps11
  go_wp2_with fail
  refine (mb_empty cb a c 1 n _ H.out).mono ?_
  rintro e w' ⟨rfl, q, rfl⟩
  go_wp2
  go_ret2
  exact ⟨rfl, q, rfl⟩
theorem next_last (cb zb c : Nat) (ns : List Nat) (k : Nat) (n : Nat) (w : World) (h : Comb w cb (some ⟨zb, 0, none⟩) ns.length c 1 n) (hz : Nums w zb ns) (hl : ns.length ≤ 65536) (hn : n ≤ 65536) (hk : Pl.Top ns k) (hi : ∀ x ∈ ns, x < n) (hlast : ns.getD k 0 + 1 = n) :
    Calls Try.prog 11 #[.pointer (some ⟨cb, 0, none⟩)] w fun e w' => e = .returned (.tuple #[.int .i64 0, .bool false]) ∧ ∃ q, w' = w.drewN q := by
  have H : Hid (Comb w cb (some ⟨zb, 0, none⟩) ns.length c 1 n ∧ Nums w zb ns ∧ Pl.Top ns k ∧ (∀ x ∈ ns, x < n) ∧ ns.getD k 0 + 1 = n) := ⟨h, hz, hk, hi, hlast⟩
  obtain ⟨h0, h1, h2⟩ := h
  clear hz hk hi hlast
  go_enter Try.func11, Try.ntmps11
  go_wp2_with fail
  refine (mb_last cb zb c ns k 1 n _ H.out.1 H.out.2.1 hl hn H.out.2.2.1 H.out.2.2.2.1 H.out.2.2.2.2).mono ?_
  rintro e w' ⟨rfl, q, rfl⟩
  go_wp2
  go_ret2
  exact ⟨rfl, q, rfl⟩
theorem next_next (cb zb c : Nat) (ns : List Nat) (k : Nat) (n : Nat) (r : Int) (w : World) (h : Comb w cb (some ⟨zb, 0, none⟩) ns.length c 1 n) (hz : Nums w zb ns) (hcz : cb ≠ zb) (hl : ns.length ≤ 65536) (hn : n ≤ 65536) (hk : Pl.Top ns k) (hi : ∀ x ∈ ns, x < n) (hlast : ns.getD k 0 + 1 < n)
    (hr : (ns.getD 0 0 = 0 ∧ r = k) ∨ (ns.getD 0 0 ≠ 0 ∧ r = 0)) :
    Calls Try.prog 11 #[.pointer (some ⟨cb, 0, none⟩)] w fun e w' => e = .returned (.tuple #[.int .i64 r, .bool true]) ∧ Only zb w w' ∧ Nums w' zb (Pl.nxt ns k) := by
  have H : Hid (Comb w cb (some ⟨zb, 0, none⟩) ns.length c 1 n ∧ Nums w zb ns ∧ Pl.Top ns k ∧ (∀ x ∈ ns, x < n) ∧ ns.getD k 0 + 1 < n ∧ ((ns.getD 0 0 = 0 ∧ r = k) ∨ (ns.getD 0 0 ≠ 0 ∧ r = 0))) := ⟨h, hz, hk, hi, hlast, hr⟩
  obtain ⟨h0, h1, h2⟩ := h
  clear hz hk hi hlast hr
  go_enter Try.func11, Try.ntmps11
  go_wp2_with fail
  refine (mb_next cb zb c ns k 1 n r _ H.out.1 H.out.2.1 hcz hl hn H.out.2.2.1 H.out.2.2.2.1 H.out.2.2.2.2.1 H.out.2.2.2.2.2).mono ?_
  rintro e w' ⟨rfl, ho, hm⟩
  have B : Hid (Only zb w w' ∧ Nums w' zb (Pl.nxt ns k)) := ⟨ho, hm⟩
  clear ho hm
  go_wp2
  go_ret2
  exact ⟨rfl, B.out⟩

/-- From the raw numbers to natural ones. -/
theorem nat_of_valid {zs : List Int} {n : Int} (h : Valid zs n) : ∃ ns : List Nat, zs.length = ns.length ∧ (∀ i, i < ns.length → zs.getD i 0 = (ns.getD i 0 : Nat)) ∧ Pl.Inc ns ∧ ∀ x ∈ ns, (x : Int) < n := by
  have hg : ∀ i, i < zs.length → ((zs.map Int.toNat).getD i 0 : Int) = zs.getD i 0 := fun i hi => by
    have := (h.1 i hi).1
    have e : (zs.map Int.toNat).getD i 0 = (zs.getD i 0).toNat := by simp [List.getD_eq_getElem?_getD, hi]
    rw [e]; omega
  refine ⟨zs.map Int.toNat, by simp, fun i hi => (hg i (by simpa using hi)).symm, Pl.inc_of fun i hi => ?_, fun x hx => ?_⟩
  · have hi' : i + 1 < zs.length := by simpa using hi
    have := h.2 i hi'
    rw [← hg i (by omega), ← hg (i + 1) hi'] at this
    omega
  · obtain ⟨i, hi, e⟩ := Pl.mem_iff.1 hx
    have hi' : i < zs.length := by simpa using hi
    have h1 := (h.1 i hi').2
    have h2 := hg i hi'
    rw [e] at h2
    omega
theorem sl_of_raw {w : World} {a : Option Addr} {zs : List Int} {ns : List Nat} (h : SlI w a zs) (hl : zs.length = ns.length) (he : ∀ i, i < ns.length → zs.getD i 0 = (ns.getD i 0 : Nat)) : Sl w a ns := by
  intro i hi
  obtain ⟨b, off, e, hlt, hc⟩ := h i (by omega)
  exact ⟨b, off, e, hlt, by rw [hc, he i hi]⟩
theorem Own.nums {w : World} {a : Option Addr} {ns : List Nat} (h : Own w a ns) (h0 : 0 < ns.length) : ∃ G, a = some ⟨G, 0, none⟩ ∧ Nums w G ns := by
  obtain ⟨G, e, m, f, h1, h2, h3⟩ := h h0
  exact ⟨G, e, m, f, h1, h2, h3⟩
theorem Nums.below {w w' : World} {zb : Nat} {ns : List Nat} (h : Nums w zb ns) (hb : Below w.heap.size w w') : Nums w' zb ns := by
  obtain ⟨m, f, h1, h2, h3⟩ := h
  exact ⟨m, f, h1.of_block (hb.block zb h1.lt), h2, h3⟩
theorem Nums.lt {w : World} {zb : Nat} {ns : List Nat} (h : Nums w zb ns) : zb < w.heap.size := by
  obtain ⟨m, f, h1, h2, h3⟩ := h
  exact h1.lt
theorem Nums.sl {w : World} {zb : Nat} {ns : List Nat} (h : Nums w zb ns) : Sl w (some ⟨zb, 0, none⟩) ns := by
  intro i hi
  exact ⟨zb, 0, rfl, h.lt, by rw [Nat.zero_add]; exact h.cell hi⟩

theorem bytes5_yes (a : Option Addr) (len cap : Nat) (n : Int) (w : World) (hl : len ≤ 1048576) :
    Calls Try.prog 5 #[.slice a len cap, .int .i64 n] w fun e w' => e = .returned (.bool true) ∧ w = w' := by
  go_enter Try.func5, Try.ntmps5
  go_wp2
  go_ret
  exact ⟨rfl, rfl⟩
theorem bytes5_no (a : Option Addr) (len cap : Nat) (n : Int) (w : World) (hl : 1048576 < len) :
    Calls Try.prog 5 #[.slice a len cap, .int .i64 n] w fun e w' => e = .returned (.bool false) ∧ w = w' := by
  go_enter Try.func5, Try.ntmps5
  go_wp2
  go_ret
  exact ⟨rfl, rfl⟩
theorem valid_yes (a : Option Addr) (cap : Nat) (zs : List Int) (n : Int) (w : World) (h : SlI w a zs) (hl : zs.length ≤ 65536) (hn0 : 0 ≤ n) (hn1 : n ≤ 65536) (hv : Valid zs n) :
    Calls Try.prog 6 #[.slice a zs.length cap, .int .i64 n] w fun e w' => e = .returned (.bool true) ∧ ∃ q, w' = w.drewN q := by
  refine (valid_any a cap zs n w h hl hn0 hn1).mono ?_
  rintro e w' ⟨⟨r, rfl, hr⟩, hw⟩
  exact ⟨ret_bool (hr.2 hv), hw⟩
theorem valid_no (a : Option Addr) (cap : Nat) (zs : List Int) (n : Int) (w : World) (h : SlI w a zs) (hl : zs.length ≤ 65536) (hn0 : 0 ≤ n) (hn1 : n ≤ 65536) (hv : ¬ Valid zs n) :
    Calls Try.prog 6 #[.slice a zs.length cap, .int .i64 n] w fun e w' => e = .returned (.bool false) ∧ ∃ q, w' = w.drewN q := by
  refine (valid_any a cap zs n w h hl hn0 hn1).mono ?_
  rintro e w' ⟨⟨r, rfl, hr⟩, hw⟩
  exact ⟨ret_bool (by cases r; rfl; exact absurd (hr.1 rfl) hv), hw⟩

/-- The input is none of the first law's. -/
theorem mask_out (a : Option Addr) (cap : Nat) (zs : List Int) (n : Int) (w : World) (h : SlI w a zs) (ho : ¬ (zs.length ≤ 65536 ∧ 0 ≤ n ∧ n ≤ 65536 ∧ Valid zs n)) (hcap : zs.length ≤ 9223372036854775807) :
    Calls Try.prog 3 #[.slice a zs.length cap, .int .i64 n] w fun e w' => e = .returned (.bool true) ∧ Below w.heap.size w w' := by
  by_cases h1 : zs.length ≤ 1048576
  · by_cases h2 : zs.length ≤ 65536
    · by_cases h3 : n < 0
      · clear ho
        go_enter Try.func3, Try.ntmps3
        go_wp2_with (go_at_call 5; refine (bytes5_yes _ _ _ _ _ h1).mono ?_; rintro e w' ⟨rfl, hw⟩; obtain rfl := hw)
        go_ret
        exact ⟨rfl, Below.refl _ _⟩
      · by_cases h4 : 65536 < n
        · clear ho
          go_enter Try.func3, Try.ntmps3
          go_wp2_with (go_at_call 5; refine (bytes5_yes _ _ _ _ _ h1).mono ?_; rintro e w' ⟨rfl, hw⟩; obtain rfl := hw)
          go_ret
          exact ⟨rfl, Below.refl _ _⟩
        · have hv : ¬ Valid zs n := fun hv => ho ⟨h2, by omega, by omega, hv⟩
          have H : Hid (SlI w a zs ∧ ¬ Valid zs n) := ⟨h, hv⟩
          clear ho hv h
          go_enter Try.func3, Try.ntmps3
          go_wp2_with (first
            | (go_at_call 5; refine (bytes5_yes _ _ _ _ _ h1).mono ?_; rintro e w' ⟨rfl, hw⟩; obtain rfl := hw)
            | (go_at_call 6; refine (valid_no _ _ zs n _ H.out.1 h2 (by omega) (by omega) H.out.2).mono ?_; rintro e w' ⟨rfl, q, rfl⟩))
          go_ret
          exact ⟨rfl, below_draws _ _ _⟩
    · clear ho
      go_enter Try.func3, Try.ntmps3
      go_wp2_with (go_at_call 5; refine (bytes5_yes _ _ _ _ _ h1).mono ?_; rintro e w' ⟨rfl, hw⟩; obtain rfl := hw)
      go_ret
      exact ⟨rfl, Below.refl _ _⟩
  · clear ho
    go_enter Try.func3, Try.ntmps3
    go_wp2_with (go_at_call 5; refine (bytes5_no _ _ _ _ _ (by omega)).mono ?_; rintro e w' ⟨rfl, hw⟩; obtain rfl := hw)
    go_ret
    exact ⟨rfl, Below.refl _ _⟩
end Go.Proofs.Qxb6629158a
