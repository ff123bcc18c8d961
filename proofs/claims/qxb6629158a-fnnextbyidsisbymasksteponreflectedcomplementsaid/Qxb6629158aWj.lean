import Derived.Test.Qxb6629158aWg
import Derived.Test.Qxb6629158aWi
namespace Go.Proofs.Qxb6629158a
open Go.RowKit
set_option linter.unusedVariables false

set_option maxHeartbeats 1600000 in
/-- Next in the order of the zones, where each place is full. -/
theorem ids_full (cb c : Nat) (a : Option Addr) (ns : List Nat) (n : Nat) (w : World) (h : Comb w cb a ns.length c 0 n) (hz : Own w a ns) (hl : ns.length ≤ 65536) (hn : n ≤ 65536) (hf : Full ns n) :
    Calls Try.prog 11 #[.pointer (some ⟨cb, 0, none⟩)] w fun e w' => e = .returned (.tuple #[.int .i64 0, .bool false]) ∧ ∃ q, w' = w.drewN q := by
  obtain ⟨c0, c1, c2⟩ := h
  have H : Hid (Own w a ns ∧ Full ns n) := ⟨hz, hf⟩
  clear hz hf
  go_enter Try.func11, Try.ntmps11
  go_wp2
  go_loopw [5] (fun i wr => ∃ (z : Int) (q : Nat), -1 ≤ z ∧ z < (ns.length : Int) ∧ i = .int .i64 z ∧ wr = w.drewN q) (fun i _ => (intOf i + 1).toNat)
  case atStart => exact ⟨(ns.length : Int) - 1, 0, by omega, by omega, rfl, rfl⟩
  case round =>
    obtain ⟨z, q, hz0, hz1, rfl, rfl⟩ := hrel
    by_cases h0 : 0 ≤ z
    · obtain ⟨j, rfl⟩ := Int.eq_ofNat_of_zero_le h0
      have hj : j < ns.length := by omega
      obtain ⟨zb, rfl, hnum⟩ := H.out.1.nums (by omega)
      have hcj : w.cell? ⟨zb, j, none⟩ = some (.int .i64 (ns.getD j 0 : Nat)) := hnum.cell hj
      have hfj := H.out.2 j hj
      obtain ⟨x, hx⟩ : ∃ x, x = ns.getD j 0 := ⟨_, rfl⟩
      rw [← hx] at hcj hfj
      have hbe : ((x : Int) == (n : Int) - (ns.length : Int) + (j : Int)) = true := by rw [beq_iff_eq]; omega
      have hd : decide ((0 : Int) ≤ (j : Int)) = true := decide_eq_true (by omega)
      clear hx H hnum hz0
      go_wp2
      go_quiet (fail)
      go_wp2
      go_roundw
      case rel => exact ⟨(j : Int) - 1, q + nq, by omega, by omega, by go_num, by simp⟩
      case measure => simp [intOf]
    · obtain rfl : z = -1 := by omega
      go_wp2
      go_quiet (fail)
      go_wp2
      go_ret2
      exact ⟨rfl, _, rfl⟩

set_option maxHeartbeats 3200000 in
/-- Next in the order of the zones, where place k is the last that may rise. -/
theorem ids_next (cb zb c : Nat) (ns : List Nat) (k : Nat) (n : Nat) (w : World) (h : Comb w cb (some ⟨zb, 0, none⟩) ns.length c 0 n) (hz : Nums w zb ns) (hcz : cb ≠ zb) (hl : ns.length ≤ 65536) (hn : n ≤ 65536) (hi : ∀ x ∈ ns, x < n) (hb : Bot ns n k) :
    Calls Try.prog 11 #[.pointer (some ⟨cb, 0, none⟩)] w fun e w' => e = .returned (.tuple #[.int .i64 k, .bool true]) ∧ Only zb w w' ∧ Nums w' zb (bmp ns k ns.length) := by
  obtain ⟨c0, c1, c2⟩ := h
  have hkl := hb.1
  have hk0 := hb.2.1
  have H : Hid (Nums w zb ns ∧ Bot ns n k ∧ (∀ x ∈ ns, x < n)) := ⟨hz, hb, hi⟩
  clear hz hb hi
  go_enter Try.func11, Try.ntmps11
  go_wp2
  go_loopw [5] (fun i wr => ∃ (j q : Nat), k ≤ j ∧ j < ns.length ∧ i = .int .i64 j ∧ wr = w.drewN q) (fun i _ => (intOf i + 1).toNat)
  case atStart => exact ⟨ns.length - 1, 0, by omega, by omega, by go_num, rfl⟩
  case round =>
    obtain ⟨j, q, hkj, hj, rfl, rfl⟩ := hrel
    have hcj : w.cell? ⟨zb, j, none⟩ = some (.int .i64 (ns.getD j 0 : Nat)) := H.out.1.cell hj
    have hjl : (j : Int) < (ns.length : Int) := by omega
    have hd : decide ((0 : Int) ≤ (j : Int)) = true := decide_eq_true (by omega)
    by_cases hlt : k < j
    · have hfj := H.out.2.1.2.2 j hlt hj
      obtain ⟨x, hx⟩ : ∃ x, x = ns.getD j 0 := ⟨_, rfl⟩
      rw [← hx] at hcj hfj
      have hbe : ((x : Int) == (n : Int) - (ns.length : Int) + (j : Int)) = true := by rw [beq_iff_eq]; omega
      clear hx H hk0
      go_wp2
      go_quiet (fail)
      go_wp2
      go_roundw
      case rel => exact ⟨j - 1, q + nq, by omega, by omega, by go_num, by simp⟩
      case measure => simp [intOf]
    · obtain rfl : j = k := by omega
      obtain ⟨x, hx⟩ : ∃ x, x = ns.getD j 0 := ⟨_, rfl⟩
      rw [← hx] at hcj hk0
      have HX : Hid (ns.getD j 0 = x) := hx.symm
      have hbe : ((x : Int) == (n : Int) - (ns.length : Int) + (j : Int)) = false := beq_false_of_ne (by omega)
      have hfj : w.frozen? ⟨zb, j, none⟩ = false := H.out.1.frozen j
      have HK : Hid (x + (ns.length - j) < n) := hk0
      have hxn : x ≤ 65536 := by omega
      clear hx hk0
      go_wp2
      go_quiet (fail)
      go_wp2
      go_loopw [6] (fun i wr => ∃ t : Nat, j ≤ t ∧ t < ns.length ∧ i = .int .i64 ((t : Int) + 1) ∧ Hid (Only zb w wr ∧ Nums wr zb (bmp ns j (t + 1)))) (fun i _ => ns.length - (intOf i).toNat)
      case atStart =>
        refine ⟨j, Nat.le_refl _, hj, rfl, ?_, ?_⟩
        · first | exact (((Only.refl _ _).drewN _).setCell _ _) | exact (((Only.refl _ _).setCell _ _).drewN _)
        · have := (H.out.1.drewN 0).set j (x + 1) (bmp ns j (j + 1)) (bmp_length ns j (j + 1)) (fun i hi => by
            rw [bmp_get ns j (j + 1) i hi, HX.out]
            by_cases e : i = j
            · rw [if_pos e, if_neg (by omega), if_pos (by omega)]; omega
            · rw [if_neg e]
              by_cases e2 : i < j
              · rw [if_pos e2]
              · rw [if_neg e2, if_neg (by omega)])
          exact this
      case round =>
        obtain ⟨t, hjt, htl, rfl, HR⟩ := hrel
        have d0 : wr.cell? ⟨cb, 0, none⟩ = some (.slice (some ⟨zb, 0, none⟩) ns.length c) := by rw [HR.out.1.cell (p := ⟨cb, 0, none⟩) (by simpa using hcz)]; exact c0
        by_cases hlt2 : t + 1 < ns.length
        · have hct : wr.cell? ⟨zb, t, none⟩ = some (.int .i64 ((bmp ns j (t + 1)).getD t 0 : Nat)) := HR.out.2.cell (by rw [bmp_length]; omega)
          have hct1 : wr.cell? ⟨zb, t + 1, none⟩ = some (.int .i64 ((bmp ns j (t + 1)).getD (t + 1) 0 : Nat)) := HR.out.2.cell (by rw [bmp_length]; omega)
          have hft : wr.frozen? ⟨zb, t + 1, none⟩ = false := HR.out.2.frozen (t + 1)
          obtain ⟨u, hu⟩ : ∃ u, u = (bmp ns j (t + 1)).getD t 0 := ⟨_, rfl⟩
          obtain ⟨v, hv⟩ : ∃ v, v = (bmp ns j (t + 1)).getD (t + 1) 0 := ⟨_, rfl⟩
          rw [← hu] at hct
          rw [← hv] at hct1
          have hue : u = x + 1 + (t - j) := by rw [hu, bmp_get ns j _ t (by omega), if_neg (by omega), if_pos (by omega), HX.out]
          have HU : Hid (u = x + 1 + (t - j)) := hue
          have hub : u ≤ 65536 := by have := HK.out; omega
          have l1 : (t : Int) + 1 < (ns.length : Int) := by omega
          have l2 : (t : Int) < (ns.length : Int) := by omega
          clear hu hv hue
          go_wp2
          go_region
          go_wp2
          go_roundw
          case rel =>
            refine ⟨t + 1, by omega, by omega, by go_num, ?_, ?_⟩
            · first | exact (HR.out.1.drew.setCell _ _) | exact ((HR.out.1.setCell _ _).drew)
            · have := HR.out.2.set (t + 1) (u + 1) (bmp ns j (t + 1 + 1)) (by rw [bmp_length, bmp_length]) (fun i hi => by
                rw [bmp_length] at hi
                rw [bmp_get ns j _ i hi, bmp_get ns j _ i hi, HX.out]
                by_cases e : i = t + 1
                · rw [if_pos e, if_neg (by omega), if_pos (by omega), HU.out]; omega
                · rw [if_neg e]
                  by_cases e2 : i < j
                  · rw [if_pos e2, if_pos e2]
                  · rw [if_neg e2, if_neg e2]
                    by_cases e3 : i < t + 1
                    · rw [if_pos e3, if_pos (by omega)]
                    · rw [if_neg e3, if_neg (by omega)])
              exact this
          case measure => simp [intOf]; omega
        · have e : t + 1 = ns.length := by omega
          have HE : Hid (t + 1 = ns.length) := e
          clear e
          go_wp2
          go_ret2
          exact ⟨rfl, by have := HR.out; rwa [HE.out] at this⟩
end Go.Proofs.Qxb6629158a
