import Derived.Test.Qxb6629158aWd
namespace Go.Proofs.Qxb6629158a
open Go.RowKit
set_option linter.unusedVariables false

/-- Nothing but block B has turned. -/
structure Only (B : Nat) (w w' : World) : Prop where
  os : w'.os = w.os
  tape : w'.tape = w.tape
  output : w'.output = w.output
  size : w'.heap.size = w.heap.size
  block : ∀ k, k ≠ B → w'.heap[k]? = w.heap[k]?
theorem Only.refl (B : Nat) (w : World) : Only B w w := ⟨rfl, rfl, rfl, rfl, fun _ _ => rfl⟩
theorem Only.drewN {B : Nat} {w w' : World} (h : Only B w w') (n : Nat) : Only B w (w'.drewN n) := ⟨h.os, h.tape, h.output, h.size, h.block⟩
theorem Only.drew {B : Nat} {w w' : World} (h : Only B w w') : Only B w w'.drew := ⟨h.os, h.tape, h.output, h.size, h.block⟩
theorem Only.setCell {B : Nat} {w w' : World} (h : Only B w w') (o : Nat) (v : Value) : Only B w (w'.setCell ⟨B, o, none⟩ v) :=
  ⟨h.os, h.tape, h.output, by rw [← h.size]; simp [World.setCell], fun k hk => by rw [← h.block k hk]; exact Below.heap_setCell _ _ _ _ hk⟩
theorem Only.cell {B : Nat} {w w' : World} (h : Only B w w') {p : Addr} (hp : p.block ≠ B) : w'.cell? p = w.cell? p := World.cell?_of_block (w := w) (h.block _ hp)
theorem Only.below {B B' : Nat} {w w' : World} (h : Only B w w') (hB : B' ≤ B) : Below B' w w' := ⟨h.os, h.tape, h.output, by rw [h.size]; exact Nat.le_refl _, fun k hk => h.block k (by omega)⟩
theorem Only.sl {B : Nat} {w w' : World} (h : Only B w w') {a : Option Addr} {ns : List Nat} (hs : Sl w a ns) (hne : ∀ x, a = some x → x.block ≠ B) : Sl w' a ns := by
  intro i hi
  obtain ⟨b, off, e, hlt, hc⟩ := hs i hi
  exact ⟨b, off, e, by rw [h.size]; exact hlt, by rw [h.cell (p := ⟨b, off + i, none⟩) (by have := hne _ e; exact this)]; exact hc⟩

/-- Draws alone. -/
theorem drw_step {w w' : World} (h : ∃ q, w' = w.drewN q) (n : Nat) : ∃ q, w'.drewN n = w.drewN q := by
  obtain ⟨q, rfl⟩ := h
  exact ⟨q + n, by simp⟩

/-- A Combinations at block cb. -/
def Comb (w : World) (cb : Nat) (a : Option Addr) (len c : Nat) (ord : Int) (n : Nat) : Prop :=
  w.cell? ⟨cb, 0, none⟩ = some (.slice a len c) ∧ w.cell? ⟨cb, 1, none⟩ = some (.int .i64 ord) ∧ w.cell? ⟨cb, 2, none⟩ = some (.int .i64 n)
/-- The numbers of a row that may be written. -/
def Nums (w : World) (zb : Nat) (ns : List Nat) : Prop := ∃ m f, w.rowIs zb 3 m f ∧ ns.length ≤ m ∧ ∀ j, j < ns.length → f j = .int .i64 (ns.getD j 0 : Nat)
theorem Nums.cell {w : World} {zb : Nat} {ns : List Nat} (h : Nums w zb ns) {j : Nat} (hj : j < ns.length) : w.cell? ⟨zb, j, none⟩ = some (.int .i64 (ns.getD j 0 : Nat)) := by
  obtain ⟨m, f, hf, hm, h1⟩ := h
  rw [hf.cell (by omega), h1 j hj]
theorem Nums.frozen {w : World} {zb : Nat} {ns : List Nat} (h : Nums w zb ns) (j : Nat) : w.frozen? ⟨zb, j, none⟩ = false := by
  obtain ⟨m, f, hf, hm, h1⟩ := h
  exact hf.frozen j
theorem Nums.set {w : World} {zb : Nat} {ns : List Nat} (h : Nums w zb ns) (i x : Nat) (ms : List Nat) (hl : ms.length = ns.length) (he : ∀ j, j < ns.length → ms.getD j 0 = if j = i then x else ns.getD j 0) : Nums (w.setCell ⟨zb, i, none⟩ (.int .i64 (x : Nat))) zb ms := by
  obtain ⟨m, f, hf, hm, h1⟩ := h
  refine ⟨m, _, hf.set i (.int .i64 (x : Nat)), by omega, fun j hj => ?_⟩
  rw [hl] at hj
  rw [he j hj]
  by_cases e : j = i
  · rw [if_pos e, if_pos e]
  · rw [if_neg e, if_neg e, h1 j hj]
theorem Nums.drewN {w : World} {zb : Nat} {ns : List Nat} (h : Nums w zb ns) (q : Nat) : Nums (w.drewN q) zb ns := h

set_option maxHeartbeats 800000 in
/-- nextByMask of no zone. -/
theorem mb_empty (cb : Nat) (a : Option Addr) (c : Nat) (ord : Int) (n : Nat) (w : World) (h : Comb w cb a 0 c ord n) :
    Calls Try.prog 22 #[.pointer (some ⟨cb, 0, none⟩)] w fun e w' => e = .returned (.tuple #[.int .i64 0, .bool false]) ∧ ∃ q, w' = w.drewN q := by
  obtain ⟨h0, h1, h2⟩ := h
  go_enter Try.func22, Try.ntmps22
  go_wp2
  go_loopw [5] (fun i wr => ∃ q : Nat, i = .int .i64 0 ∧ wr = w.drewN q) (fun i _ => 0)
  case atStart => exact ⟨0, rfl, rfl⟩
  case round =>
    obtain ⟨q, rfl, rfl⟩ := hrel
    go_wp2
    go_quiet (fail)
    go_wp2
    go_quiet (fail)
    go_wp2
    go_ret2
    exact ⟨rfl, drw_step (drw_step ⟨q, rfl⟩ _) _⟩

set_option maxHeartbeats 1600000 in
/-- nextByMask where the top of the lowest run is the last zone. -/
theorem mb_last (cb zb c : Nat) (ns : List Nat) (k : Nat) (ord : Int) (n : Nat) (w : World) (h : Comb w cb (some ⟨zb, 0, none⟩) ns.length c ord n) (hz : Nums w zb ns) (hl : ns.length ≤ 65536) (hn : n ≤ 65536) (hk : Pl.Top ns k) (hi : ∀ x ∈ ns, x < n) (hlast : ns.getD k 0 + 1 = n) :
    Calls Try.prog 22 #[.pointer (some ⟨cb, 0, none⟩)] w fun e w' => e = .returned (.tuple #[.int .i64 0, .bool false]) ∧ ∃ q, w' = w.drewN q := by
  obtain ⟨c0, c1, c2⟩ := h
  have hkl := hk.1
  have hne : ((ns.length : Int) == 0) = false := beq_false_of_ne (by omega)
  have H : Hid (Nums w zb ns ∧ Pl.Top ns k ∧ (∀ x ∈ ns, x < n) ∧ ns.getD k 0 + 1 = n) := ⟨hz, hk, hi, hlast⟩
  clear hz hk hi hlast
  go_enter Try.func22, Try.ntmps22
  go_wp2
  go_loopw [5] (fun i wr => ∃ j q : Nat, j ≤ k ∧ i = .int .i64 j ∧ wr = w.drewN q) (fun i _ => ns.length - (intOf i).toNat)
  case atStart => exact ⟨0, 0, Nat.zero_le _, rfl, rfl⟩
  case round =>
    obtain ⟨j, q, hj, rfl, rfl⟩ := hrel
    have hcj : w.cell? ⟨zb, j, none⟩ = some (.int .i64 (ns.getD j 0 : Nat)) := H.out.1.cell (by omega)
    have hxn := H.out.2.2.1 _ (Pl.getD_mem (show j < ns.length by omega))
    by_cases hlt : j < k
    · have hcj1 : w.cell? ⟨zb, j + 1, none⟩ = some (.int .i64 (ns.getD (j + 1) 0 : Nat)) := H.out.1.cell (by omega)
      rw [← H.out.2.1.2.1 j hlt] at hcj1
      obtain ⟨x, hx⟩ : ∃ x, x = ns.getD j 0 := ⟨_, rfl⟩
      rw [← hx] at hcj hcj1 hxn
      have ec : ((x + 1 : Nat) : Int) = (x : Int) + 1 := by omega
      rw [ec] at hcj1
      have l1 : (j : Int) < (ns.length : Int) - 1 := by omega
      have l2 : (j : Int) < (ns.length : Int) := by omega
      have l3 : (j : Int) + 1 < (ns.length : Int) := by omega
      have hd : decide ((j : Int) < (ns.length : Int) - 1) = true := decide_eq_true l1
      clear hx H ec
      go_wp2
      go_quiet (fail)
      go_wp2
      go_roundw
      case rel => exact ⟨j + 1, q + nq, by omega, by go_num, by simp⟩
      case measure => simp [intOf]; omega
    · obtain rfl : j = k := by omega
      have l2 : (j : Int) < (ns.length : Int) := by omega
      have hlast := H.out.2.2.2
      have htop := H.out.2.1.2.2
      by_cases hk1 : j + 1 < ns.length
      · have hcj1 : w.cell? ⟨zb, j + 1, none⟩ = some (.int .i64 (ns.getD (j + 1) 0 : Nat)) := H.out.1.cell (by omega)
        have hne2 := htop hk1
        obtain ⟨x, hx⟩ : ∃ x, x = ns.getD j 0 := ⟨_, rfl⟩
        obtain ⟨y, hy⟩ : ∃ y, y = ns.getD (j + 1) 0 := ⟨_, rfl⟩
        rw [← hx] at hcj hxn hlast hne2
        rw [← hy] at hcj1 hne2
        have hbe : ((x : Int) + 1 == (y : Int)) = false := beq_false_of_ne (by omega)
        have hle : ((x : Int) == (n : Int) - 1) = true := by rw [beq_iff_eq]; omega
        have l1 : (j : Int) < (ns.length : Int) - 1 := by omega
        have l3 : (j : Int) + 1 < (ns.length : Int) := by omega
        have hd : decide ((j : Int) < (ns.length : Int) - 1) = true := decide_eq_true l1
        clear hx hy H htop hlast hne2
        go_wp2
        go_quiet (fail)
        go_wp2
        go_quiet (fail)
        go_wp2
        go_ret2
        exact ⟨rfl, drw_step (drw_step ⟨q, rfl⟩ _) _⟩
      · obtain ⟨x, hx⟩ : ∃ x, x = ns.getD j 0 := ⟨_, rfl⟩
        rw [← hx] at hcj hxn hlast
        have hle : ((x : Int) == (n : Int) - 1) = true := by rw [beq_iff_eq]; omega
        have hd : decide ((j : Int) < (ns.length : Int) - 1) = false := decide_eq_false (by omega)
        clear hx H htop hlast
        go_wp2
        go_quiet (fail)
        go_wp2
        go_quiet (fail)
        go_wp2
        go_ret2
        exact ⟨rfl, drw_step (drw_step ⟨q, rfl⟩ _) _⟩
end Go.Proofs.Qxb6629158a
