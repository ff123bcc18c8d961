import Derived.Test.Qxb6629158aWe
namespace Go.Proofs.Qxb6629158a
open Go.RowKit
set_option linter.unusedVariables false

/-- The list behind the raising of place k, the first s places lowered. -/
def mid (l : List Nat) (k s : Nat) : List Nat := (List.range l.length).map fun j => if j < s then j else if j = k then l.getD k 0 + 1 else l.getD j 0
theorem mid_length (l : List Nat) (k s : Nat) : (mid l k s).length = l.length := by simp [mid]
theorem mid_get (l : List Nat) (k s j : Nat) (hj : j < l.length) : (mid l k s).getD j 0 = if j < s then j else if j = k then l.getD k 0 + 1 else l.getD j 0 := by
  simp [mid, List.getD_eq_getElem?_getD, hj]

set_option maxHeartbeats 6400000 in
/-- nextByMask where there is a next. -/
theorem mb_next (cb zb c : Nat) (ns : List Nat) (k : Nat) (ord : Int) (n : Nat) (r : Int) (w : World) (h : Comb w cb (some ⟨zb, 0, none⟩) ns.length c ord n) (hz : Nums w zb ns) (hcz : cb ≠ zb) (hl : ns.length ≤ 65536) (hn : n ≤ 65536) (hk : Pl.Top ns k) (hi : ∀ x ∈ ns, x < n) (hlast : ns.getD k 0 + 1 < n)
    (hr : (ns.getD 0 0 = 0 ∧ r = k) ∨ (ns.getD 0 0 ≠ 0 ∧ r = 0)) :
    Calls Try.prog 22 #[.pointer (some ⟨cb, 0, none⟩)] w fun e w' => e = .returned (.tuple #[.int .i64 r, .bool true]) ∧ Only zb w w' ∧ Nums w' zb (mid ns k k) := by
  obtain ⟨c0, c1, c2⟩ := h
  have hkl := hk.1
  have hne : ((ns.length : Int) == 0) = false := beq_false_of_ne (by omega)
  have H : Hid (Nums w zb ns ∧ Pl.Top ns k ∧ (∀ x ∈ ns, x < n) ∧ ns.getD k 0 + 1 < n ∧ ((ns.getD 0 0 = 0 ∧ r = k) ∨ (ns.getD 0 0 ≠ 0 ∧ r = 0))) := ⟨hz, hk, hi, hlast, hr⟩
  clear hz hk hi hlast hr
  go_enter Try.func22, Try.ntmps22
  go_wp2
  go_loopw [5] (fun i wr => ∃ j q : Nat, j ≤ k ∧ i = .int .i64 j ∧ wr = w.drewN q) (fun i _ => ns.length - (intOf i).toNat)
  case atStart => exact ⟨0, 0, Nat.zero_le _, rfl, rfl⟩
  case round =>
    obtain ⟨j, q, hj, rfl, rfl⟩ := hrel
    have hcj : w.cell? ⟨zb, j, none⟩ = some (.int .i64 (ns.getD j 0 : Nat)) := H.out.1.cell (by omega)
    have hxn := H.out.2.2.1 _ (Pl.getD_mem (show j < ns.length by omega))
    by_cases hlt : j < k
    · have hcj1 : w.cell? ⟨zb, j + 1, none⟩ = some (.int .i64 (ns.getD (j + 1) 0 : Nat)) := H.out.1.cell (by omega)
      rw [← H.out.2.1.2.1 j hlt] at hcj1
      obtain ⟨x, hx⟩ : ∃ x, x = ns.getD j 0 := ⟨_, rfl⟩
      rw [← hx] at hcj hcj1 hxn
      have ec : ((x + 1 : Nat) : Int) = (x : Int) + 1 := by omega
      rw [ec] at hcj1
      have l1 : (j : Int) < (ns.length : Int) - 1 := by omega
      have l2 : (j : Int) < (ns.length : Int) := by omega
      have l3 : (j : Int) + 1 < (ns.length : Int) := by omega
      have hd : decide ((j : Int) < (ns.length : Int) - 1) = true := decide_eq_true l1
      clear hx H ec
      go_wp2
      go_quiet (fail)
      go_wp2
      go_roundw
      case rel => exact ⟨j + 1, q + nq, by omega, by go_num, by simp⟩
      case measure => simp [intOf]; omega
    · obtain rfl : j = k := by omega
      have l2 : (j : Int) < (ns.length : Int) := by omega
      have hlast := H.out.2.2.2.1
      have htop := H.out.2.1.2.2
      by_cases hk1 : j + 1 < ns.length
      · have hcj1 : w.cell? ⟨zb, j + 1, none⟩ = some (.int .i64 (ns.getD (j + 1) 0 : Nat)) := H.out.1.cell (by omega)
        have hne2 := htop hk1
        obtain ⟨x, hx⟩ : ∃ x, x = ns.getD j 0 := ⟨_, rfl⟩
        obtain ⟨y, hy⟩ : ∃ y, y = ns.getD (j + 1) 0 := ⟨_, rfl⟩
        rw [← hx] at hcj hxn hlast hne2
        rw [← hy] at hcj1 hne2
        have HX : Hid (ns.getD j 0 = x) := hx.symm
        have hbe : ((x : Int) + 1 == (y : Int)) = false := beq_false_of_ne (by omega)
        have hle : ((x : Int) == (n : Int) - 1) = false := beq_false_of_ne (by omega)
        have l1 : (j : Int) < (ns.length : Int) - 1 := by omega
        have l3 : (j : Int) + 1 < (ns.length : Int) := by omega
        have hd : decide ((j : Int) < (ns.length : Int) - 1) = true := decide_eq_true l1
        clear hx hy htop hlast hne2
        have hz0 : w.cell? ⟨zb, 0, none⟩ = some (.int .i64 (ns.getD 0 0 : Nat)) := H.out.1.cell (by omega)
        obtain ⟨z0, hz⟩ : ∃ z0, z0 = ns.getD 0 0 := ⟨_, rfl⟩
        rw [← hz] at hz0
        have HZ : Hid (z0 = ns.getD 0 0) := hz
        clear hz
        have hfj : w.frozen? ⟨zb, j, none⟩ = false := H.out.1.frozen j
        have lz : (0 : Int) < (ns.length : Int) := by omega
        by_cases hz1 : z0 = 0
        · subst hz1
          have HF : Hid (r = (j : Int)) := by
            rcases H.out.2.2.2.2 with ⟨_, h⟩ | ⟨h, _⟩
            · exact h
            · exact absurd HZ.out.symm h
          have hbz : (((0 : Nat) : Int) != 0) = false := by simp
          go_wp2
          go_quiet (fail)
          go_wp2
          go_quiet (fail)
          go_wp2
          go_loopw [6, 72] (fun v i wr => ∃ s : Nat, s ≤ j ∧ i = .int .i64 s ∧ Hid (Only zb w wr ∧ Nums wr zb (mid ns j s))) (fun _ i _ => j - (intOf i).toNat)
          case atStart =>
            refine ⟨0, Nat.zero_le _, rfl, ?_, ?_⟩
            · first | exact (((Only.refl _ _).drewN _).setCell _ _) | exact (((Only.refl _ _).setCell _ _).drewN _)
            · have := (H.out.1.drewN 0).set j (x + 1) (mid ns j 0) (mid_length ns j 0) (fun i hi => by rw [mid_get ns j 0 i hi, HX.out]; simp)
              exact this
          case round =>
            obtain ⟨s, hs, rfl, HR⟩ := hrel
            have d0 : wr.cell? ⟨cb, 0, none⟩ = some (.slice (some ⟨zb, 0, none⟩) ns.length c) := by rw [HR.out.1.cell (p := ⟨cb, 0, none⟩) (by simpa using hcz)]; exact c0
            by_cases hlt2 : s < j
            · have hcs : wr.cell? ⟨zb, s, none⟩ = some (.int .i64 ((mid ns j s).getD s 0 : Nat)) := HR.out.2.cell (by rw [mid_length]; omega)
              have hfs : wr.frozen? ⟨zb, s, none⟩ = false := HR.out.2.frozen s
              obtain ⟨u, hu⟩ : ∃ u, u = (mid ns j s).getD s 0 := ⟨_, rfl⟩
              rw [← hu] at hcs
              have ls : (s : Int) < (ns.length : Int) := by omega
              clear hu
              go_wp2
              go_roundw
              case rel =>
                refine ⟨s + 1, by omega, by go_num, HR.out.1.setCell _ _, HR.out.2.set s s (mid ns j (s + 1)) (by rw [mid_length, mid_length]) (fun i hi => ?_)⟩
                rw [mid_length] at hi
                rw [mid_get ns j _ i hi, mid_get ns j _ i hi]
                by_cases e : i = s
                · rw [if_pos e, if_pos (by omega), e]
                · rw [if_neg e]
                  by_cases e2 : i < s
                  · rw [if_pos e2, if_pos (by omega)]
                  · rw [if_neg e2, if_neg (by omega)]
              case measure => simp [intOf]; omega
            · obtain rfl : s = j := by omega
              go_wp2
              go_ret2
              exact ⟨by rw [HF.out]; rfl, HR.out⟩
        · have HF : Hid (r = 0) := by
            rcases H.out.2.2.2.2 with ⟨h, _⟩ | ⟨_, h⟩
            · exact absurd (HZ.out.trans h) hz1
            · exact h
          have hbz : ((z0 : Int) != 0) = true := by simp; exact hz1
          go_wp2
          go_quiet (fail)
          go_wp2
          go_quiet (fail)
          go_wp2
          go_loopw [6, 72] (fun v i wr => ∃ s : Nat, s ≤ j ∧ i = .int .i64 s ∧ Hid (Only zb w wr ∧ Nums wr zb (mid ns j s))) (fun _ i _ => j - (intOf i).toNat)
          case atStart =>
            refine ⟨0, Nat.zero_le _, rfl, ?_, ?_⟩
            · first | exact (((Only.refl _ _).drewN _).setCell _ _) | exact (((Only.refl _ _).setCell _ _).drewN _)
            · have := (H.out.1.drewN 0).set j (x + 1) (mid ns j 0) (mid_length ns j 0) (fun i hi => by rw [mid_get ns j 0 i hi, HX.out]; simp)
              exact this
          case round =>
            obtain ⟨s, hs, rfl, HR⟩ := hrel
            have d0 : wr.cell? ⟨cb, 0, none⟩ = some (.slice (some ⟨zb, 0, none⟩) ns.length c) := by rw [HR.out.1.cell (p := ⟨cb, 0, none⟩) (by simpa using hcz)]; exact c0
            by_cases hlt2 : s < j
            · have hcs : wr.cell? ⟨zb, s, none⟩ = some (.int .i64 ((mid ns j s).getD s 0 : Nat)) := HR.out.2.cell (by rw [mid_length]; omega)
              have hfs : wr.frozen? ⟨zb, s, none⟩ = false := HR.out.2.frozen s
              obtain ⟨u, hu⟩ : ∃ u, u = (mid ns j s).getD s 0 := ⟨_, rfl⟩
              rw [← hu] at hcs
              have ls : (s : Int) < (ns.length : Int) := by omega
              clear hu
              go_wp2
              go_roundw
              case rel =>
                refine ⟨s + 1, by omega, by go_num, HR.out.1.setCell _ _, HR.out.2.set s s (mid ns j (s + 1)) (by rw [mid_length, mid_length]) (fun i hi => ?_)⟩
                rw [mid_length] at hi
                rw [mid_get ns j _ i hi, mid_get ns j _ i hi]
                by_cases e : i = s
                · rw [if_pos e, if_pos (by omega), e]
                · rw [if_neg e]
                  by_cases e2 : i < s
                  · rw [if_pos e2, if_pos (by omega)]
                  · rw [if_neg e2, if_neg (by omega)]
              case measure => simp [intOf]; omega
            · obtain rfl : s = j := by omega
              go_wp2
              go_ret2
              exact ⟨by rw [HF.out]; rfl, HR.out⟩
      · obtain ⟨x, hx⟩ : ∃ x, x = ns.getD j 0 := ⟨_, rfl⟩
        rw [← hx] at hcj hxn hlast
        have HX : Hid (ns.getD j 0 = x) := hx.symm
        have hle : ((x : Int) == (n : Int) - 1) = false := beq_false_of_ne (by omega)
        have hd : decide ((j : Int) < (ns.length : Int) - 1) = false := decide_eq_false (by omega)
        clear hx htop hlast
        have hz0 : w.cell? ⟨zb, 0, none⟩ = some (.int .i64 (ns.getD 0 0 : Nat)) := H.out.1.cell (by omega)
        obtain ⟨z0, hz⟩ : ∃ z0, z0 = ns.getD 0 0 := ⟨_, rfl⟩
        rw [← hz] at hz0
        have HZ : Hid (z0 = ns.getD 0 0) := hz
        clear hz
        have hfj : w.frozen? ⟨zb, j, none⟩ = false := H.out.1.frozen j
        have lz : (0 : Int) < (ns.length : Int) := by omega
        by_cases hz1 : z0 = 0
        · subst hz1
          have HF : Hid (r = (j : Int)) := by
            rcases H.out.2.2.2.2 with ⟨_, h⟩ | ⟨h, _⟩
            · exact h
            · exact absurd HZ.out.symm h
          have hbz : (((0 : Nat) : Int) != 0) = false := by simp
          go_wp2
          go_quiet (fail)
          go_wp2
          go_quiet (fail)
          go_wp2
          go_loopw [6, 72] (fun v i wr => ∃ s : Nat, s ≤ j ∧ i = .int .i64 s ∧ Hid (Only zb w wr ∧ Nums wr zb (mid ns j s))) (fun _ i _ => j - (intOf i).toNat)
          case atStart =>
            refine ⟨0, Nat.zero_le _, rfl, ?_, ?_⟩
            · first | exact (((Only.refl _ _).drewN _).setCell _ _) | exact (((Only.refl _ _).setCell _ _).drewN _)
            · have := (H.out.1.drewN 0).set j (x + 1) (mid ns j 0) (mid_length ns j 0) (fun i hi => by rw [mid_get ns j 0 i hi, HX.out]; simp)
              exact this
          case round =>
            obtain ⟨s, hs, rfl, HR⟩ := hrel
            have d0 : wr.cell? ⟨cb, 0, none⟩ = some (.slice (some ⟨zb, 0, none⟩) ns.length c) := by rw [HR.out.1.cell (p := ⟨cb, 0, none⟩) (by simpa using hcz)]; exact c0
            by_cases hlt2 : s < j
            · have hcs : wr.cell? ⟨zb, s, none⟩ = some (.int .i64 ((mid ns j s).getD s 0 : Nat)) := HR.out.2.cell (by rw [mid_length]; omega)
              have hfs : wr.frozen? ⟨zb, s, none⟩ = false := HR.out.2.frozen s
              obtain ⟨u, hu⟩ : ∃ u, u = (mid ns j s).getD s 0 := ⟨_, rfl⟩
              rw [← hu] at hcs
              have ls : (s : Int) < (ns.length : Int) := by omega
              clear hu
              go_wp2
              go_roundw
              case rel =>
                refine ⟨s + 1, by omega, by go_num, HR.out.1.setCell _ _, HR.out.2.set s s (mid ns j (s + 1)) (by rw [mid_length, mid_length]) (fun i hi => ?_)⟩
                rw [mid_length] at hi
                rw [mid_get ns j _ i hi, mid_get ns j _ i hi]
                by_cases e : i = s
                · rw [if_pos e, if_pos (by omega), e]
                · rw [if_neg e]
                  by_cases e2 : i < s
                  · rw [if_pos e2, if_pos (by omega)]
                  · rw [if_neg e2, if_neg (by omega)]
              case measure => simp [intOf]; omega
            · obtain rfl : s = j := by omega
              go_wp2
              go_ret2
              exact ⟨by rw [HF.out]; rfl, HR.out⟩
        · have HF : Hid (r = 0) := by
            rcases H.out.2.2.2.2 with ⟨h, _⟩ | ⟨_, h⟩
            · exact absurd (HZ.out.trans h) hz1
            · exact h
          have hbz : ((z0 : Int) != 0) = true := by simp; exact hz1
          go_wp2
          go_quiet (fail)
          go_wp2
          go_quiet (fail)
          go_wp2
          go_loopw [6, 72] (fun v i wr => ∃ s : Nat, s ≤ j ∧ i = .int .i64 s ∧ Hid (Only zb w wr ∧ Nums wr zb (mid ns j s))) (fun _ i _ => j - (intOf i).toNat)
          case atStart =>
            refine ⟨0, Nat.zero_le _, rfl, ?_, ?_⟩
            · first | exact (((Only.refl _ _).drewN _).setCell _ _) | exact (((Only.refl _ _).setCell _ _).drewN _)
            · have := (H.out.1.drewN 0).set j (x + 1) (mid ns j 0) (mid_length ns j 0) (fun i hi => by rw [mid_get ns j 0 i hi, HX.out]; simp)
              exact this
          case round =>
            obtain ⟨s, hs, rfl, HR⟩ := hrel
            have d0 : wr.cell? ⟨cb, 0, none⟩ = some (.slice (some ⟨zb, 0, none⟩) ns.length c) := by rw [HR.out.1.cell (p := ⟨cb, 0, none⟩) (by simpa using hcz)]; exact c0
            by_cases hlt2 : s < j
            · have hcs : wr.cell? ⟨zb, s, none⟩ = some (.int .i64 ((mid ns j s).getD s 0 : Nat)) := HR.out.2.cell (by rw [mid_length]; omega)
              have hfs : wr.frozen? ⟨zb, s, none⟩ = false := HR.out.2.frozen s
              obtain ⟨u, hu⟩ : ∃ u, u = (mid ns j s).getD s 0 := ⟨_, rfl⟩
              rw [← hu] at hcs
              have ls : (s : Int) < (ns.length : Int) := by omega
              clear hu
              go_wp2
              go_roundw
              case rel =>
                refine ⟨s + 1, by omega, by go_num, HR.out.1.setCell _ _, HR.out.2.set s s (mid ns j (s + 1)) (by rw [mid_length, mid_length]) (fun i hi => ?_)⟩
                rw [mid_length] at hi
                rw [mid_get ns j _ i hi, mid_get ns j _ i hi]
                by_cases e : i = s
                · rw [if_pos e, if_pos (by omega), e]
                · rw [if_neg e]
                  by_cases e2 : i < s
                  · rw [if_pos e2, if_pos (by omega)]
                  · rw [if_neg e2, if_neg (by omega)]
              case measure => simp [intOf]; omega
            · obtain rfl : s = j := by omega
              go_wp2
              go_ret2
              exact ⟨by rw [HF.out]; rfl, HR.out⟩
end Go.Proofs.Qxb6629158a
