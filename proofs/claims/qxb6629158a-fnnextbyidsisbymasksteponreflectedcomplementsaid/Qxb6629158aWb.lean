import Derived.Test.Qxb6629158aWa
namespace Go.Proofs.Qxb6629158a
open Go.RowKit
set_option linter.unusedVariables false

/-- A vector of L bits in block G. -/
def Bv (w : World) (G L : Nat) (v : Nat → Bool) : Prop := w.rowIs G 4 L (fun i => .bool (v i))
theorem Bv.below {w w' : World} {G L : Nat} {v : Nat → Bool} (h : Bv w G L v) (hb : Below w.heap.size w w') : Bv w' G L v := World.rowIs.of_block h (hb.block G (World.rowIs.lt h))
theorem Bv.at {w w' : World} {G L : Nat} {v : Nat → Bool} (h : Bv w G L v) (hb : Below w.heap.size w w') {i : Nat} (hi : i < L) : w'.cell? ⟨G, i, none⟩ = some (.bool (v i)) := (h.below hb).cell hi
theorem Bv.congr {w : World} {G L : Nat} {v u : Nat → Bool} (h : Bv w G L v) (e : ∀ i, i < L → v i = u i) : Bv w G L u := World.rowIs.congr h fun i hi => by rw [e i hi]

/-- A vector that is filled from its foot on. -/
def Fil (g : Nat → Bool) (k j : Nat) : Bool := decide (j < k) && g j
theorem Bv.put {w : World} {G L k : Nat} {g : Nat → Bool} (h : Bv w G L (Fil g k)) (u : Bool) (hu : u = g k) : Bv (w.setCell ⟨G, k, none⟩ (.bool u)) G L (Fil g (k + 1)) := by
  refine (World.rowIs.set h k (.bool u)).congr fun j hj => ?_
  unfold Fil
  by_cases e : j = k
  · subst e; rw [if_pos rfl, decide_eq_true (show j < j + 1 by omega), hu]; simp
  · rw [if_neg e]
    by_cases e2 : j < k
    · rw [decide_eq_true e2, decide_eq_true (show j < k + 1 by omega)]
    · rw [decide_eq_false e2, decide_eq_false (show ¬ j < k + 1 by omega)]
theorem Bv.done {w : World} {G L k : Nat} {g : Nat → Bool} (h : Bv w G L (Fil g k)) (hk : L ≤ k) : Bv w G L g :=
  h.congr fun i hi => by unfold Fil; rw [decide_eq_true (show i < k by omega)]; simp
theorem Bv.start (w : World) (L : Nat) (g : Nat → Bool) : Bv (w.alloc (.cells (madeCells #[.bool false] L) 4)) w.heap.size L (Fil g 0) :=
  (World.rowIs_made w (.bool false) L 4).congr fun i hi => by simp [Fil]
theorem Bv.next {w : World} {G L k : Nat} {g : Nat → Bool} (h : Bv w G L (Fil g k)) (hk : k < L) : w.cell? ⟨G, k, none⟩ = some (.bool false) := by
  have := World.rowIs.cell h hk
  simpa [Fil] using this

theorem make4 (n : Nat) (h : n ≤ 65537) (w : World) : (Instr.makeSlice 25 (.int .i64 (n : Int)) (.int .i64 (n : Int))).run Try.prog w = .ok (.slice (some ⟨w.heap.size, 0, none⟩) n n) (w.alloc (.cells (madeCells #[.bool false] n) 4)) :=
  run_make_row' (P := Try.prog) 25 4 (.bool false) 1 Try.underlying25 Try.info4 rfl .i64 .i64 n (by omega) (by omega) w

theorem msk_snoc (l : List Nat) (x i : Nat) : Pl.msk (l ++ [x]) i = (decide (i = x) || Pl.msk l i) := by
  unfold Pl.msk
  by_cases h1 : i = x <;> by_cases h2 : i ∈ l <;> simp [h1, h2]
theorem take_snoc (ns : List Nat) (k : Nat) (h : k < ns.length) : ns.take (k + 1) = ns.take k ++ [ns.getD k 0] := by
  rw [List.take_succ_eq_append_getElem h]; simp [List.getD_eq_getElem?_getD, h]

/-- zzMaskOf. -/
theorem mask_any (a : Option Addr) (cap : Nat) (ns : List Nat) (n : Nat) (w : World) (h : Sl w a ns) (hl : ns.length ≤ 65536) (hn : n ≤ 65536) (hx : ∀ x ∈ ns, x < n) :
    Calls Try.prog 9 #[.slice a ns.length cap, .int .i64 n] w fun e w' => e = .returned (.slice (some ⟨w.heap.size, 0, none⟩) (n + 1) (n + 1)) ∧ Below w.heap.size w w' ∧ Bv w' w.heap.size (n + 1) (Pl.msk ns) := by
  have H : Hid (Sl w a ns ∧ ∀ x ∈ ns, x < n) := ⟨h, hx⟩
  clear h hx
  have hmk := make4 (n + 1) (by omega)
  have ec : ((n + 1 : Nat) : Int) = (n : Int) + 1 := by omega
  rw [ec] at hmk
  clear ec
  go_enter Try.func9, Try.ntmps9
  go_wp2
  clear hmk
  go_loopw [6] (fun i wr => ∃ k : Nat, k ≤ ns.length ∧ i = .int .i64 k ∧ Hid (Below w.heap.size w wr ∧ Bv wr w.heap.size (n + 1) (Pl.msk (ns.take k)))) (fun i _ => ns.length - (intOf i).toNat)
  case atStart =>
    refine ⟨0, Nat.zero_le _, rfl, (Below.refl _ _).alloc (Nat.le_refl _) _, ?_⟩
    exact (World.rowIs_made w (.bool false) (n + 1) 4).congr fun i hi => by simp [Pl.msk]
  case round =>
    obtain ⟨k, hk, rfl, HR⟩ := hrel
    by_cases hlt : k < ns.length
    · obtain ⟨b, off, rfl, hb, hc0⟩ := H.out.1 k hlt
      have hc : wr.cell? ⟨b, off + k, none⟩ = some (.int .i64 (ns.getD k 0 : Nat)) := by rw [HR.out.1.cell (p := ⟨b, off + k, none⟩) hb]; exact hc0
      have hxn := H.out.2 _ (Pl.getD_mem hlt)
      have hts := take_snoc ns k hlt
      obtain ⟨x, hx⟩ : ∃ x, x = ns.getD k 0 := ⟨_, rfl⟩
      rw [← hx] at hc hxn hts
      have hcs : wr.cell? ⟨w.heap.size, x, none⟩ = some (.bool (Pl.msk (ns.take k) x)) := World.rowIs.cell HR.out.2 (by omega)
      have hfs : wr.frozen? ⟨w.heap.size, x, none⟩ = false := World.rowIs.frozen HR.out.2 x
      obtain ⟨bx, hbx⟩ : ∃ bx, bx = Pl.msk (ns.take k) x := ⟨_, rfl⟩
      rw [← hbx] at hcs
      have HX : Hid (ns.take (k + 1) = ns.take k ++ [x]) := hts
      have l1 : (x : Int) < (n : Int) + 1 := by omega
      clear hx H hc0 hts hbx
      go_wp2
      go_roundw
      case rel =>
        refine ⟨k + 1, by omega, by go_num, HR.out.1.setCell (p := ⟨w.heap.size, x, none⟩) (Nat.le_refl _) _, ?_⟩
        refine (World.rowIs.set HR.out.2 x (.bool true)).congr fun j hj => ?_
        rw [HX.out, msk_snoc]
        by_cases e : j = x
        · rw [if_pos e, decide_eq_true e]; simp
        · rw [if_neg e, decide_eq_false e]; simp
      case measure => simp [intOf]; omega
    · go_wp2
      go_ret
      have e := List.take_of_length_le (show ns.length ≤ k by omega)
      have h2 := HR.out.2
      rw [e] at h2
      exact ⟨rfl, HR.out.1, h2⟩

/-- zzLowBit where a bit is set. -/
theorem low_yes (G L c : Nat) (v : Nat → Bool) (t : Nat) (w : World) (h : Bv w G L v) (hL : L ≤ 65537) (ht : t < L) (h1 : v t = true) (h0 : ∀ i, i < t → v i = false) :
    Calls Try.prog 17 #[.slice (some ⟨G, 0, none⟩) L c] w fun e w' => e = .returned (.tuple #[.slice (some ⟨w.heap.size, 0, none⟩) L L, .int .i64 t]) ∧ Below w.heap.size w w' ∧ Bv w' w.heap.size L (Pl.one t) := by
  have H : Hid (Bv w G L v ∧ v t = true ∧ ∀ i, i < t → v i = false) := ⟨h, h1, h0⟩
  clear h h1 h0
  have hmk := make4 L hL
  go_enter Try.func17, Try.ntmps17
  go_wp2
  clear hmk
  go_loopw [5] (fun i wr => ∃ k : Nat, k ≤ t ∧ i = .int .i64 k ∧ Hid (Below w.heap.size w wr ∧ Bv wr w.heap.size L (fun _ => false))) (fun i _ => L - (intOf i).toNat)
  case atStart => exact ⟨0, Nat.zero_le _, rfl, (Below.refl _ _).alloc (Nat.le_refl _) _, World.rowIs_made w (.bool false) L 4⟩
  case round =>
    obtain ⟨k, hk, rfl, HR⟩ := hrel
    have hc : wr.cell? ⟨G, k, none⟩ = some (.bool (v k)) := H.out.1.at HR.out.1 (by omega)
    have l1 : (k : Int) < (L : Int) := by omega
    by_cases hlt : k < t
    · rw [H.out.2.2 k hlt] at hc
      go_wp2
      go_roundw
      case rel => exact ⟨k + 1, by omega, by go_num, HR.out⟩
      case measure => simp [intOf]; omega
    · obtain rfl : k = t := by omega
      rw [H.out.2.1] at hc
      have hcs : wr.cell? ⟨w.heap.size, k, none⟩ = some (.bool false) := World.rowIs.cell HR.out.2 ht
      have hfs : wr.frozen? ⟨w.heap.size, k, none⟩ = false := World.rowIs.frozen HR.out.2 k
      go_wp2
      go_ret2
      refine ⟨rfl, HR.out.1.setCell (p := ⟨w.heap.size, k, none⟩) (Nat.le_refl _) _, ?_⟩
      refine (World.rowIs.set HR.out.2 k (.bool true)).congr fun j hj => ?_
      unfold Pl.one
      by_cases e : j = k
      · rw [if_pos e, decide_eq_true e]
      · rw [if_neg e, decide_eq_false e]
/-- zzLowBit where none is. -/
theorem low_no (G L c : Nat) (v : Nat → Bool) (w : World) (h : Bv w G L v) (hL : L ≤ 65537) (h0 : ∀ i, i < L → v i = false) :
    Calls Try.prog 17 #[.slice (some ⟨G, 0, none⟩) L c] w fun e w' => (∃ x, e = .returned (.tuple #[.slice (some x) L L, .int .i64 (-1)])) ∧ Below w.heap.size w w' := by
  have H : Hid (Bv w G L v ∧ ∀ i, i < L → v i = false) := ⟨h, h0⟩
  clear h h0
  have hmk := make4 L hL
  go_enter Try.func17, Try.ntmps17
  go_wp2
  clear hmk
  go_loopw [5] (fun i wr => ∃ k : Nat, k ≤ L ∧ i = .int .i64 k ∧ Hid (Below w.heap.size w wr)) (fun i _ => L - (intOf i).toNat)
  case atStart => exact ⟨0, Nat.zero_le _, rfl, (Below.refl _ _).alloc (Nat.le_refl _) _⟩
  case round =>
    obtain ⟨k, hk, rfl, HR⟩ := hrel
    by_cases hlt : k < L
    · have hc : wr.cell? ⟨G, k, none⟩ = some (.bool (v k)) := H.out.1.at HR.out hlt
      have l1 : (k : Int) < (L : Int) := by omega
      rw [H.out.2 k hlt] at hc
      go_wp2
      go_roundw
      case rel => exact ⟨k + 1, by omega, by go_num, HR.out⟩
      case measure => simp [intOf]; omega
    · go_wp2
      go_ret2
      exact ⟨⟨_, rfl⟩, HR.out⟩

set_option maxHeartbeats 1600000 in
/-- zzAdd. -/
theorem add_any (Ga Gb L ca cb : Nat) (va vb : Nat → Bool) (w : World) (ha : Bv w Ga L va) (hb : Bv w Gb L vb) (hL : L ≤ 65537) :
    Calls Try.prog 18 #[.slice (some ⟨Ga, 0, none⟩) L ca, .slice (some ⟨Gb, 0, none⟩) L cb] w fun e w' => e = .returned (.slice (some ⟨w.heap.size, 0, none⟩) L L) ∧ Below w.heap.size w w' ∧ Bv w' w.heap.size L (Pl.sm va vb) := by
  have H : Hid (Bv w Ga L va ∧ Bv w Gb L vb) := ⟨ha, hb⟩
  clear ha hb
  have hmk := make4 L hL
  go_enter Try.func18, Try.ntmps18
  go_wp2
  clear hmk
  go_loopw [6, 7] (fun c i wr => ∃ k : Nat, k ≤ L ∧ i = .int .i64 k ∧ ∃ cr : Bool, c = .bool cr ∧ Hid (cr = Pl.car va vb k) ∧ Hid (Below w.heap.size w wr ∧ Bv wr w.heap.size L (Fil (Pl.sm va vb) k))) (fun _ i _ => L - (intOf i).toNat)
  case atStart => exact ⟨0, Nat.zero_le _, rfl, false, rfl, rfl, (Below.refl _ _).alloc (Nat.le_refl _) _, Bv.start w L _⟩
  case round =>
    obtain ⟨k, hk, rfl, cr, rfl, HC, HR⟩ := hrel
    by_cases hlt : k < L
    · have hca : wr.cell? ⟨Ga, k, none⟩ = some (.bool (va k)) := H.out.1.at HR.out.1 hlt
      have hcb : wr.cell? ⟨Gb, k, none⟩ = some (.bool (vb k)) := H.out.2.at HR.out.1 hlt
      have hcs : wr.cell? ⟨w.heap.size, k, none⟩ = some (.bool false) := HR.out.2.next hlt
      have hfs : wr.frozen? ⟨w.heap.size, k, none⟩ = false := World.rowIs.frozen HR.out.2 k
      have l1 : (k : Int) < (L : Int) := by omega
      have HS : Hid (((va k != vb k) != cr) = Pl.sm va vb k ∧ ((va k && vb k) || (cr && (va k != vb k))) = Pl.car va vb (k + 1)) := by
        rw [HC.out]; exact ⟨rfl, rfl⟩
      generalize va k = x at hca HS
      generalize vb k = y at hcb HS
      clear H HC
      cases x <;> cases y <;> cases cr
      all_goals
        go_wp2
        go_roundw
        case rel => exact ⟨k + 1, by omega, by go_num, _, rfl, HS.out.2, HR.out.1.setCell (p := ⟨w.heap.size, k, none⟩) (Nat.le_refl _) _, HR.out.2.put _ HS.out.1⟩
        case measure => simp [intOf]; omega
    · go_wp2
      go_ret
      exact ⟨rfl, HR.out.1, HR.out.2.done (by omega)⟩

/-- zzXor. -/
theorem xor_any (Ga Gb L ca cb : Nat) (va vb : Nat → Bool) (w : World) (ha : Bv w Ga L va) (hb : Bv w Gb L vb) (hL : L ≤ 65537) :
    Calls Try.prog 20 #[.slice (some ⟨Ga, 0, none⟩) L ca, .slice (some ⟨Gb, 0, none⟩) L cb] w fun e w' => e = .returned (.slice (some ⟨w.heap.size, 0, none⟩) L L) ∧ Below w.heap.size w w' ∧ Bv w' w.heap.size L (fun i => va i != vb i) := by
  have H : Hid (Bv w Ga L va ∧ Bv w Gb L vb) := ⟨ha, hb⟩
  clear ha hb
  have hmk := make4 L hL
  go_enter Try.func20, Try.ntmps20
  go_wp2
  clear hmk
  go_loopw [6] (fun i wr => ∃ k : Nat, k ≤ L ∧ i = .int .i64 k ∧ Hid (Below w.heap.size w wr ∧ Bv wr w.heap.size L (Fil (fun i => va i != vb i) k))) (fun i _ => L - (intOf i).toNat)
  case atStart => exact ⟨0, Nat.zero_le _, rfl, (Below.refl _ _).alloc (Nat.le_refl _) _, Bv.start w L _⟩
  case round =>
    obtain ⟨k, hk, rfl, HR⟩ := hrel
    by_cases hlt : k < L
    · have hca : wr.cell? ⟨Ga, k, none⟩ = some (.bool (va k)) := H.out.1.at HR.out.1 hlt
      have hcb : wr.cell? ⟨Gb, k, none⟩ = some (.bool (vb k)) := H.out.2.at HR.out.1 hlt
      have hcs : wr.cell? ⟨w.heap.size, k, none⟩ = some (.bool false) := HR.out.2.next hlt
      have hfs : wr.frozen? ⟨w.heap.size, k, none⟩ = false := World.rowIs.frozen HR.out.2 k
      have l1 : (k : Int) < (L : Int) := by omega
      have HS : Hid (va k = va k ∧ vb k = vb k) := ⟨rfl, rfl⟩
      have HE : Hid ((va k != vb k) = (fun i => va i != vb i) k) := rfl
      generalize va k = x at hca HE
      generalize vb k = y at hcb HE
      clear H HS
      go_wp2
      go_region
      go_wp2
      go_roundw
      case rel => exact ⟨k + 1, by omega, by go_num, (HR.out.1.setCell (p := ⟨w.heap.size, k, none⟩) (Nat.le_refl _) _).drew, (HR.out.2.put _ HE.out)⟩
      case measure => simp [intOf]; omega
    · go_wp2
      go_ret
      exact ⟨rfl, HR.out.1, HR.out.2.done (by omega)⟩

/-- zzOr. -/
theorem or_any (Ga Gb L ca cb : Nat) (va vb : Nat → Bool) (w : World) (ha : Bv w Ga L va) (hb : Bv w Gb L vb) (hL : L ≤ 65537) :
    Calls Try.prog 21 #[.slice (some ⟨Ga, 0, none⟩) L ca, .slice (some ⟨Gb, 0, none⟩) L cb] w fun e w' => e = .returned (.slice (some ⟨w.heap.size, 0, none⟩) L L) ∧ Below w.heap.size w w' ∧ Bv w' w.heap.size L (fun i => va i || vb i) := by
  have H : Hid (Bv w Ga L va ∧ Bv w Gb L vb) := ⟨ha, hb⟩
  clear ha hb
  have hmk := make4 L hL
  go_enter Try.func21, Try.ntmps21
  go_wp2
  clear hmk
  go_loopw [6] (fun i wr => ∃ k : Nat, k ≤ L ∧ i = .int .i64 k ∧ Hid (Below w.heap.size w wr ∧ Bv wr w.heap.size L (Fil (fun i => va i || vb i) k))) (fun i _ => L - (intOf i).toNat)
  case atStart => exact ⟨0, Nat.zero_le _, rfl, (Below.refl _ _).alloc (Nat.le_refl _) _, Bv.start w L _⟩
  case round =>
    obtain ⟨k, hk, rfl, HR⟩ := hrel
    by_cases hlt : k < L
    · have hca : wr.cell? ⟨Ga, k, none⟩ = some (.bool (va k)) := H.out.1.at HR.out.1 hlt
      have hcb : wr.cell? ⟨Gb, k, none⟩ = some (.bool (vb k)) := H.out.2.at HR.out.1 hlt
      have hcs : wr.cell? ⟨w.heap.size, k, none⟩ = some (.bool false) := HR.out.2.next hlt
      have hfs : wr.frozen? ⟨w.heap.size, k, none⟩ = false := World.rowIs.frozen HR.out.2 k
      have l1 : (k : Int) < (L : Int) := by omega
      have HE : Hid ((va k || vb k) = (fun i => va i || vb i) k) := rfl
      generalize va k = x at hca HE
      generalize vb k = y at hcb HE
      clear H
      cases x <;> cases y
      all_goals
        go_wp2
        go_roundw
        case rel => exact ⟨k + 1, by omega, by go_num, (HR.out.1.setCell (p := ⟨w.heap.size, k, none⟩) (Nat.le_refl _) _), (HR.out.2.put _ HE.out)⟩
        case measure => simp [intOf]; omega
    · go_wp2
      go_ret
      exact ⟨rfl, HR.out.1, HR.out.2.done (by omega)⟩

/-- zzShr. -/
theorem shr_any (Ga L ca s : Nat) (va : Nat → Bool) (w : World) (ha : Bv w Ga L va) (hL : L ≤ 65537) (hs : s ≤ 65540) :
    Calls Try.prog 19 #[.slice (some ⟨Ga, 0, none⟩) L ca, .int .i64 s] w fun e w' => e = .returned (.slice (some ⟨w.heap.size, 0, none⟩) L L) ∧ Below w.heap.size w w' ∧ Bv w' w.heap.size L (fun i => decide (i + s < L) && va (i + s)) := by
  have H : Hid (Bv w Ga L va) := ha
  clear ha
  have hmk := make4 L hL
  go_enter Try.func19, Try.ntmps19
  go_wp2
  clear hmk
  go_loopw [6] (fun i wr => ∃ k : Nat, k ≤ L ∧ i = .int .i64 k ∧ Hid (Below w.heap.size w wr ∧ Bv wr w.heap.size L (Fil (fun i => decide (i + s < L) && va (i + s)) k))) (fun i _ => L - (intOf i).toNat)
  case atStart => exact ⟨0, Nat.zero_le _, rfl, (Below.refl _ _).alloc (Nat.le_refl _) _, Bv.start w L _⟩
  case round =>
    obtain ⟨k, hk, rfl, HR⟩ := hrel
    by_cases hlt : k + s < L
    · have hca : wr.cell? ⟨Ga, k + s, none⟩ = some (.bool (va (k + s))) := H.out.at HR.out.1 hlt
      have hcs : wr.cell? ⟨w.heap.size, k, none⟩ = some (.bool false) := HR.out.2.next (by omega)
      have hfs : wr.frozen? ⟨w.heap.size, k, none⟩ = false := World.rowIs.frozen HR.out.2 k
      have l1 : (k : Int) < (L : Int) := by omega
      have l2 : (k : Int) + (s : Int) < (L : Int) := by omega
      have HE : Hid (va (k + s) = (fun i => decide (i + s < L) && va (i + s)) k) := by show _ = (decide (k + s < L) && va (k + s)); rw [decide_eq_true hlt]; simp
      generalize va (k + s) = x at hca HE
      clear H
      go_wp2
      go_roundw
      case rel => exact ⟨k + 1, by omega, by go_num, (HR.out.1.setCell (p := ⟨w.heap.size, k, none⟩) (Nat.le_refl _) _), (HR.out.2.put _ HE.out)⟩
      case measure => simp [intOf]; omega
    · go_wp2
      go_ret
      refine ⟨rfl, HR.out.1, HR.out.2.congr fun i hi => ?_⟩
      unfold Fil
      by_cases e : i < k
      · rw [decide_eq_true e]; simp
      · rw [decide_eq_false e, decide_eq_false (show ¬ i + s < L by omega)]; simp
end Go.Proofs.Qxb6629158a
