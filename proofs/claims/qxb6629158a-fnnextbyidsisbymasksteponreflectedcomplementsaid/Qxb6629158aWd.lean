import Derived.Test.Qxb6629158aWc
namespace Go.Proofs.Qxb6629158a
open Go.RowKit
set_option linter.unusedVariables false

theorem make3c (n : Nat) (h : n ≤ 65536) (w : World) : (Instr.makeSlice 22 (.int .i64 0) (.int .i64 (n : Int))).run Try.prog w = .ok (.slice (some ⟨w.heap.size, 0, none⟩) 0 n) (w.alloc (.cells (madeCells #[.int .i64 0] n) 3)) := by
  obtain ⟨i, hi, hzz⟩ := Option.map_eq_some_iff.1 Try.info3
  simp only [Prod.mk.injEq] at hzz
  obtain ⟨hz, hs, hb⟩ := hzz
  have hr := run_make (P := Try.prog) w 22 3 i _ Try.underlying22 hi hz .i64 .i64 0 (n : Int) (by omega) (by omega) (by rw [hb]; omega) (by omega)
  rw [hs, show ((n : Int)).toNat = n by omega] at hr
  simpa [Value.cells] using hr

/-- A row of n cells at B of which the first are the numbers l. -/
def Gath (w : World) (B n : Nat) (l : List Nat) : Prop := ∃ f, w.rowIs B 3 n f ∧ ∀ j, j < l.length → f j = .int .i64 (l.getD j 0 : Nat)
theorem gath_start (w : World) (n : Nat) : Gath (w.alloc (.cells (madeCells #[.int .i64 0] n) 3)) w.heap.size n [] := ⟨_, World.rowIs_made w (.int .i64 0) n 3, fun j hj => absurd hj (Nat.not_lt_zero _)⟩
theorem gath_cells {w : World} {B n : Nat} {l : List Nat} (h : Gath w B n l) (hm : l.length < n) : ∃ u, (∀ o, (w.alloc o).cell? ⟨B, l.length, none⟩ = some u) ∧ (∀ o, (w.alloc o).frozen? ⟨B, l.length, none⟩ = false) := by
  obtain ⟨f, hf, _⟩ := h
  exact ⟨f l.length, fun o => (hf.alloc o).cell hm, fun o => (hf.alloc o).frozen _⟩
theorem gath_step {w : World} {B n : Nat} {l : List Nat} (h : Gath w B n l) (x : Nat) (o : Obj) : Gath ((w.alloc o).setCell ⟨B, l.length, none⟩ (.int .i64 (x : Nat))) B n (l ++ [x]) := by
  obtain ⟨f, hf, hl⟩ := h
  refine ⟨_, (hf.alloc o).set l.length (.int .i64 (x : Nat)), fun j hj => ?_⟩
  simp at hj
  by_cases e : j = l.length
  · subst e; rw [if_pos rfl]; simp [List.getD_eq_getElem?_getD]
  · rw [if_neg e, hl j (by omega)]
    simp [List.getD_eq_getElem?_getD, List.getElem?_append_left (show j < l.length by omega)]
theorem Gath.own {w : World} {B n : Nat} {l : List Nat} (h : Gath w B n l) (hl : l.length ≤ n) : Own w (some ⟨B, 0, none⟩) l := fun _ => by
  obtain ⟨f, hf, h1⟩ := h
  exact ⟨B, rfl, n, f, hf, hl, h1⟩

set_option maxHeartbeats 800000 in
/-- zzZonesOf. -/
theorem zonesOf_any (G L c n : Nat) (g : Nat → Bool) (w : World) (h : Bv w G L g) (hL : n ≤ L) (hn : n ≤ 65536) (hL2 : L ≤ 65537) :
    Calls Try.prog 13 #[.slice (some ⟨G, 0, none⟩) L c, .int .i64 n] w fun e w' => e = .returned (.slice (some ⟨w.heap.size, 0, none⟩) (Pl.zones g n).length n) ∧ Below w.heap.size w w' ∧ Own w' (some ⟨w.heap.size, 0, none⟩) (Pl.zones g n) := by
  have H : Hid (Bv w G L g) := h
  clear h
  have hmk := make3c n hn
  go_enter Try.func13, Try.ntmps13
  go_wp2
  clear hmk
  go_loopw [5, 6] (fun o i wr => ∃ k m : Nat, k ≤ n ∧ m ≤ k ∧ i = .int .i64 k ∧ o = .slice (some ⟨w.heap.size, 0, none⟩) m n ∧ Hid (m = (Pl.zones g k).length) ∧ Hid (Below w.heap.size w wr ∧ w.heap.size < wr.heap.size ∧ Gath wr w.heap.size n (Pl.zones g k))) (fun _ i _ => n - (intOf i).toNat)
  case atStart => exact ⟨0, 0, Nat.zero_le _, Nat.le_refl _, rfl, rfl, rfl, (Below.refl _ _).alloc (Nat.le_refl _) _, by simp, gath_start w n⟩
  case round =>
    obtain ⟨k, m, hk, hm, rfl, rfl, HM, HR⟩ := hrel
    by_cases hlt : k < n
    · have hc : wr.cell? ⟨G, k, none⟩ = some (.bool (g k)) := H.out.at HR.out.1 (by omega)
      have l1 : (k : Int) < (L : Int) := by omega
      have HZ : Hid (Pl.zones g (k + 1) = Pl.zones g k ++ if g k then [k] else []) := Pl.zones_succ g k
      by_cases hg : g k = true
      · rw [hg] at hc
        obtain ⟨u, hu, hv⟩ := gath_cells HR.out.2.2 (show (Pl.zones g k).length < n by rw [← HM.out]; omega)
        rw [← HM.out] at hu hv
        have hmn : m + 1 ≤ n := by omega
        have hmn' : m < n := by omega
        have HG : Hid (g k = true) := hg
        have ST : Hid (∀ o, Gath ((wr.alloc o).setCell ⟨w.heap.size, m, none⟩ (.int .i64 (k : Nat))) w.heap.size n (Pl.zones g k ++ [k])) := fun o => by have := gath_step HR.out.2.2 k o; rwa [← HM.out] at this
        clear hg H
        go_wp2
        go_roundw
        case rel =>
          refine ⟨k + 1, m + 1, by omega, by omega, by go_num, rfl, ?_, (HR.out.1.alloc HR.out.1.size _).setCell (p := ⟨w.heap.size, m, none⟩) (Nat.le_refl _) _, by have := HR.out.2.1; simp [World.setCell]; omega, ?_⟩
          · show _ = _; rw [HZ.out, if_pos HG.out, HM.out]; simp
          · rw [HZ.out, if_pos HG.out]; exact ST.out _
        case measure => simp [intOf]; omega
      · have hg' : g k = false := by simpa using hg
        rw [hg'] at hc
        have HG : Hid (g k = false) := hg'
        clear hg hg' H
        go_wp2
        go_roundw
        case rel =>
          refine ⟨k + 1, m, by omega, by omega, by go_num, rfl, ?_, HR.out.1, HR.out.2.1, ?_⟩
          · show _ = _; rw [HZ.out, if_neg (by rw [HG.out]; simp), HM.out]; simp
          · rw [HZ.out, if_neg (by rw [HG.out]; simp)]; simpa using HR.out.2.2
        case measure => simp [intOf]; omega
    · obtain rfl : k = n := by omega
      go_wp2
      go_ret
      have e := HM.out
      subst e
      exact ⟨rfl, HR.out.1, HR.out.2.2.own (by omega)⟩

/-- The reflected complement's mask. -/
def refl (ns : List Nat) (n : Nat) (y : Nat) : Bool := !Pl.msk ns (n - 1 - y)
def rc (ns : List Nat) (n : Nat) : List Nat := Pl.zones (refl ns n) n

set_option maxHeartbeats 1600000 in
/-- zzReflectComplement. -/
theorem reflect_any (a : Option Addr) (cap : Nat) (ns : List Nat) (n : Nat) (w : World) (h : Sl w a ns) (hl : ns.length ≤ 65536) (hn : n ≤ 65536) (hx : ∀ x ∈ ns, x < n) :
    Calls Try.prog 16 #[.slice a ns.length cap, .int .i64 n] w fun e w' => ∃ B, e = .returned (.slice (some ⟨B, 0, none⟩) (rc ns n).length n) ∧ Below w.heap.size w w' ∧ Own w' (some ⟨B, 0, none⟩) (rc ns n) ∧ w.heap.size ≤ B := by
  have H : Hid (Sl w a ns ∧ ∀ x ∈ ns, x < n) := ⟨h, hx⟩
  clear h hx
  have hmk := make4 n (by omega)
  have hmk2 := make3c n hn
  go_enter Try.func16, Try.ntmps16
  go_wp2
  clear hmk
  go_loopw [6] (fun i wr => ∃ k : Nat, k ≤ ns.length ∧ i = .int .i64 k ∧ Hid (Below w.heap.size w wr ∧ Bv wr w.heap.size n (Pl.msk (ns.take k)))) (fun i _ => ns.length - (intOf i).toNat)
  case atStart =>
    refine ⟨0, Nat.zero_le _, rfl, (Below.refl _ _).alloc (Nat.le_refl _) _, ?_⟩
    exact (World.rowIs_made w (.bool false) n 4).congr fun i hi => by simp [Pl.msk]
  case round =>
    obtain ⟨k, hk, rfl, HR⟩ := hrel
    by_cases hlt : k < ns.length
    · obtain ⟨b, off, rfl, hb, hc0⟩ := H.out.1 k hlt
      have hc : wr.cell? ⟨b, off + k, none⟩ = some (.int .i64 (ns.getD k 0 : Nat)) := by rw [HR.out.1.cell (p := ⟨b, off + k, none⟩) hb]; exact hc0
      have hxn := H.out.2 _ (Pl.getD_mem hlt)
      have hts := take_snoc ns k hlt
      obtain ⟨x, hx⟩ : ∃ x, x = ns.getD k 0 := ⟨_, rfl⟩
      rw [← hx] at hc hxn hts
      have hcs : wr.cell? ⟨w.heap.size, x, none⟩ = some (.bool (Pl.msk (ns.take k) x)) := World.rowIs.cell HR.out.2 (by omega)
      have hfs : wr.frozen? ⟨w.heap.size, x, none⟩ = false := World.rowIs.frozen HR.out.2 x
      obtain ⟨bx, hbx⟩ : ∃ bx, bx = Pl.msk (ns.take k) x := ⟨_, rfl⟩
      rw [← hbx] at hcs
      have HX : Hid (ns.take (k + 1) = ns.take k ++ [x]) := hts
      have l1 : (x : Int) < (n : Int) := by omega
      clear hx H hc0 hts hbx hmk2
      go_wp2
      go_roundw
      case rel =>
        refine ⟨k + 1, by omega, by go_num, HR.out.1.setCell (p := ⟨w.heap.size, x, none⟩) (Nat.le_refl _) _, ?_⟩
        refine (World.rowIs.set HR.out.2 x (.bool true)).congr fun j hj => ?_
        rw [HX.out, msk_snoc]
        by_cases e : j = x
        · rw [if_pos e, decide_eq_true e]; simp
        · rw [if_neg e, decide_eq_false e]; simp
      case measure => simp [intOf]; omega
    · obtain ⟨w1, rfl⟩ : ∃ w1, w1 = wr := ⟨wr, rfl⟩
      have e := List.take_of_length_le (show ns.length ≤ k by omega)
      have h2 := HR.out.2
      rw [e] at h2
      have H1 : Hid (Below w.heap.size w w1 ∧ Bv w1 w.heap.size n (Pl.msk ns)) := ⟨HR.out.1, h2⟩
      clear HR h2 e
      go_wp2
      clear hmk2
      go_loopw [7, 8] (fun o i wr => ∃ y m : Nat, y ≤ n ∧ m ≤ y ∧ i = .int .i64 y ∧ o = .slice (some ⟨w1.heap.size, 0, none⟩) m n ∧ Hid (m = (Pl.zones (refl ns n) y).length) ∧ Hid (Below w1.heap.size w1 wr ∧ w1.heap.size < wr.heap.size ∧ Gath wr w1.heap.size n (Pl.zones (refl ns n) y))) (fun _ i _ => n - (intOf i).toNat)
      case atStart => exact ⟨0, 0, Nat.zero_le _, Nat.le_refl _, rfl, rfl, rfl, (Below.refl _ _).alloc (Nat.le_refl _) _, by simp, gath_start w1 n⟩
      case round =>
        obtain ⟨y, m, hy, hm, rfl, rfl, HM, HR⟩ := hrel
        by_cases hly : y < n
        · have hc : wr.cell? ⟨w.heap.size, n - 1 - y, none⟩ = some (.bool (Pl.msk ns (n - 1 - y))) := H1.out.2.at HR.out.1 (by omega)
          have l1 : (0 : Int) ≤ (n : Int) - 1 - (y : Int) := by omega
          have l2 : (n : Int) - 1 - (y : Int) < (n : Int) := by omega
          have HZ : Hid (Pl.zones (refl ns n) (y + 1) = Pl.zones (refl ns n) y ++ if refl ns n y then [y] else []) := Pl.zones_succ _ y
          by_cases hg : Pl.msk ns (n - 1 - y) = true
          · have HG : Hid (refl ns n y = false) := by show refl ns n y = false; unfold refl; rw [hg]; rfl
            rw [hg] at hc
            clear hg H
            go_wp2
            go_roundw
            case rel =>
              refine ⟨y + 1, m, by omega, by omega, by go_num, rfl, ?_, HR.out.1, HR.out.2.1, ?_⟩
              · show _ = _; rw [HZ.out, if_neg (by rw [HG.out]; simp), HM.out]; simp
              · rw [HZ.out, if_neg (by rw [HG.out]; simp)]; simpa using HR.out.2.2
            case measure => simp [intOf]; omega
          · have hg' : Pl.msk ns (n - 1 - y) = false := by simpa using hg
            have HG : Hid (refl ns n y = true) := by show refl ns n y = true; unfold refl; rw [hg']; rfl
            rw [hg'] at hc
            obtain ⟨u, hu, hv⟩ := gath_cells HR.out.2.2 (show (Pl.zones (refl ns n) y).length < n by rw [← HM.out]; omega)
            rw [← HM.out] at hu hv
            have hmn : m + 1 ≤ n := by omega
            have hmn' : m < n := by omega
            have ST : Hid (∀ o, Gath ((wr.alloc o).setCell ⟨w1.heap.size, m, none⟩ (.int .i64 (y : Nat))) w1.heap.size n (Pl.zones (refl ns n) y ++ [y])) := fun o => by have := gath_step HR.out.2.2 y o; rwa [← HM.out] at this
            clear hg hg' H
            go_wp2
            go_roundw
            case rel =>
              refine ⟨y + 1, m + 1, by omega, by omega, by go_num, rfl, ?_, (HR.out.1.alloc HR.out.1.size _).setCell (p := ⟨w1.heap.size, m, none⟩) (Nat.le_refl _) _, by have := HR.out.2.1; simp [World.setCell]; omega, ?_⟩
              · show _ = _; rw [HZ.out, if_pos HG.out, HM.out]; simp
              · rw [HZ.out, if_pos HG.out]; exact ST.out _
            case measure => simp [intOf]; omega
        · obtain rfl : y = n := by omega
          go_wp2
          go_ret
          have e := HM.out
          subst e
          exact ⟨w1.heap.size, rfl, below_chain H1.out.1 HR.out.1, HR.out.2.2.own (by omega), H1.out.1.size⟩
end Go.Proofs.Qxb6629158a
