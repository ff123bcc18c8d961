import Derived.Test.Qxb6629158aRows
import Derived.Test.Qxb6629158aPlain
import Derived.WalkKit
import Derived.WalkSpells
import Derived.RegionTactic
import Derived.Deep.QuietTactic
import Derived.BigQuiet
import Derived.Deep.LoopGhost
import Derived.Deep.Draws
import Derived.Deep.OwnRows
namespace Go.Proofs.Qxb6629158a
open Go.RowKit
set_option linter.unusedVariables false

theorem ret_int {k : IntKind} {a b : Int} (h : a = b) : Ending.returned (.int k a) = .returned (.int k b) := by rw [h]
theorem ret_bool {a b : Bool} (h : a = b) : Ending.returned (.bool a) = .returned (.bool b) := by rw [h]
theorem below_draws (B : Nat) (w : World) (n : Nat) : Below B w (w.drewN n) := ⟨rfl, rfl, rfl, Nat.le_refl _, fun _ _ => rfl⟩
theorem below_chain {w w1 w2 : World} (h1 : Below w.heap.size w w1) (h2 : Below w1.heap.size w1 w2) : Below w.heap.size w w2 := h1.trans (h2.mono h1.size)

/-- The elements of a slice of int that came in: nothing is said of an empty one. -/
def SlI (w : World) (a : Option Addr) (zs : List Int) : Prop :=
  ∀ i, i < zs.length → ∃ b off, a = some ⟨b, off, none⟩ ∧ b < w.heap.size ∧ w.cell? ⟨b, off + i, none⟩ = some (.int .i64 (zs.getD i 0))
/-- The same, of natural numbers. -/
def Sl (w : World) (a : Option Addr) (ns : List Nat) : Prop :=
  ∀ i, i < ns.length → ∃ b off, a = some ⟨b, off, none⟩ ∧ b < w.heap.size ∧ w.cell? ⟨b, off + i, none⟩ = some (.int .i64 (ns.getD i 0 : Nat))
theorem Sl.below {w w' : World} {a : Option Addr} {ns : List Nat} (h : Sl w a ns) (hb : Below w.heap.size w w') : Sl w' a ns := by
  intro i hi
  obtain ⟨b, off, e, hlt, hc⟩ := h i hi
  exact ⟨b, off, e, Nat.lt_of_lt_of_le hlt hb.size, by rw [hb.cell (p := ⟨b, off + i, none⟩) hlt]; exact hc⟩
/-- A slice of numbers in a block of the call's own. -/
def Own (w : World) (a : Option Addr) (ns : List Nat) : Prop :=
  0 < ns.length → ∃ G, a = some ⟨G, 0, none⟩ ∧ ∃ m f, w.rowIs G 3 m f ∧ ns.length ≤ m ∧ ∀ j, j < ns.length → f j = .int .i64 (ns.getD j 0 : Nat)
theorem Own.sl {w : World} {a : Option Addr} {ns : List Nat} (h : Own w a ns) : Sl w a ns := by
  intro i hi
  obtain ⟨G, e, m, f, hr, hm, hf⟩ := h (by omega)
  exact ⟨G, 0, e, hr.lt, by rw [Nat.zero_add, hr.cell (by omega), hf i hi]⟩
def Valid (zs : List Int) (n : Int) : Prop := (∀ i, i < zs.length → 0 ≤ zs.getD i 0 ∧ zs.getD i 0 < n) ∧ (∀ i, i + 1 < zs.length → zs.getD i 0 < zs.getD (i + 1) 0)

/-- It answers a bool, which tells p. -/
def Tells (e : Ending) (p : Prop) : Prop := ∃ r : Bool, e = .returned (.bool r) ∧ (r = true ↔ p)

set_option maxHeartbeats 800000 in
theorem valid_any (a : Option Addr) (cap : Nat) (zs : List Int) (n : Int) (w : World) (h : SlI w a zs) (hl : zs.length ≤ 65536) (hn0 : 0 ≤ n) (hn1 : n ≤ 65536) :
    Calls Try.prog 6 #[.slice a zs.length cap, .int .i64 n] w fun e w' => Tells e (Valid zs n) ∧ ∃ q, w' = w.drewN q := by
  have H : Hid (SlI w a zs) := h
  clear h
  go_enter Try.func6, Try.ntmps6
  go_wp2
  go_loopw [5] (fun i wr => ∃ k q : Nat, k ≤ zs.length ∧ i = .int .i64 k ∧ wr = w.drewN q ∧ Hid ((∀ j, j < k → 0 ≤ zs.getD j 0 ∧ zs.getD j 0 < n) ∧ (∀ j, j + 1 < k → zs.getD j 0 < zs.getD (j + 1) 0))) (fun i _ => zs.length - (intOf i).toNat)
  case atStart => exact ⟨0, 0, Nat.zero_le _, rfl, rfl, fun j hj => absurd hj (Nat.not_lt_zero _), fun j hj => absurd hj (Nat.not_lt_zero _)⟩
  case round =>
    obtain ⟨k, q, hk, rfl, rfl, HN⟩ := hrel
    by_cases hlt : k < zs.length
    · obtain ⟨b, off, rfl, hb, hc⟩ := H.out k hlt
      have l1 : (k : Int) < (zs.length : Int) := by omega
      have hyc : 0 < k → w.cell? ⟨b, off + (k - 1), none⟩ = some (.int .i64 (zs.getD (k - 1) 0)) := fun h0 => by
        obtain ⟨b', off', e, _, h1⟩ := H.out (k - 1) (by omega)
        simp at e; obtain ⟨rfl, rfl⟩ := e; exact h1
      obtain ⟨x, hx⟩ : ∃ x, x = zs.getD k 0 := ⟨_, rfl⟩
      obtain ⟨y, hy⟩ : ∃ y, y = zs.getD (k - 1) 0 := ⟨_, rfl⟩
      rw [← hx] at hc
      rw [← hy] at hyc
      have HX : Hid (x = zs.getD k 0 ∧ y = zs.getD (k - 1) 0) := ⟨hx, hy⟩
      clear hx hy H
      have NO : Hid (¬ (0 ≤ x ∧ x < n) → Tells (.returned (.bool false)) (Valid zs n)) := fun hn => ⟨false, rfl, fun h => by simp at h, fun h => by have := h.1 k hlt; rw [← HX.out.1] at this; exact absurd this hn⟩
      by_cases h1 : x < 0
      · clear hyc
        go_wp2
        go_ret
        exact ⟨NO.out (by omega), q, rfl⟩
      by_cases h2 : n ≤ x
      · clear hyc
        go_wp2
        go_ret
        exact ⟨NO.out (by omega), q, rfl⟩
      by_cases h3 : k = 0
      · subst h3
        clear hyc
        simp only [Nat.add_zero] at hc
        go_wp2
        go_quiet (fail)
        go_wp2
        go_roundw
        case rel =>
          refine ⟨1, q + nq, by omega, by go_num, by simp, fun j hj => ?_, fun j hj => by omega⟩
          obtain rfl : j = 0 := by omega
          rw [← HX.out.1]
          omega
        case measure => simp [intOf]; omega
      · have hyc' := hyc (by omega)
        clear hyc
        have l2 : (0 : Int) < (k : Int) := by omega
        have hd : decide (0 < k) = true := decide_eq_true (by omega)
        have l3 : (0 : Int) ≤ (k : Int) - 1 := by omega
        have l4 : (k : Int) - 1 < (zs.length : Int) := by omega
        by_cases h4 : x ≤ y
        · go_wp2
          go_quiet (fail)
          go_wp2
          go_ret
          refine ⟨⟨false, rfl, fun h => by simp at h, fun h => ?_⟩, q + nq, by simp⟩
          have := h.2 (k - 1) (by omega)
          rw [show k - 1 + 1 = k by omega, ← HX.out.1, ← HX.out.2] at this
          omega
        · go_wp2
          go_quiet (fail)
          go_wp2
          go_roundw
          case rel =>
            refine ⟨k + 1, q + nq, by omega, by go_num, by simp, fun j hj => ?_, fun j hj => ?_⟩
            · by_cases e : j = k
              · subst e; rw [← HX.out.1]; omega
              · exact HN.out.1 j (by omega)
            · by_cases e : j + 1 = k
              · subst e; have := HX.out; rw [show j + 1 - 1 = j by omega] at this; rw [← this.1, ← this.2]; omega
              · exact HN.out.2 j (by omega)
          case measure => simp [intOf]; omega
    · go_wp2
      go_ret
      exact ⟨⟨true, rfl, fun _ => ⟨fun j hj => HN.out.1 j (by omega), fun j hj => HN.out.2 j (by omega)⟩, fun _ => rfl⟩, q, rfl⟩

theorem Try.info3 : (Try.prog.info? 3).map (fun i => (i.zero, i.size, i.bytes)) = some (some (.int .i64 0), 1, 8) := by kernel_rfl
theorem Try.info4 : (Try.prog.info? 4).map (fun i => (i.zero, i.size, i.bytes)) = some (some (.bool false), 1, 1) := by kernel_rfl

/-- zzCloneInts. -/
theorem clone_any (a : Option Addr) (cap : Nat) (ns : List Nat) (w : World) (h : Sl w a ns) (hl : ns.length ≤ 65536) :
    Calls Try.prog 7 #[.slice a ns.length cap] w fun e w' => ∃ a2 c2, e = .returned (.slice a2 ns.length c2) ∧ Below w.heap.size w w' ∧ Own w' a2 ns ∧ (∀ x, a2 = some x → w.heap.size ≤ x.block) := by
  cases a with
  | none =>
    have h0 : ns.length = 0 := by
      rcases Nat.eq_zero_or_pos ns.length with e | e
      · exact e
      · obtain ⟨b, off, e2, _⟩ := h 0 e; cases e2
    obtain rfl : ns = [] := List.length_eq_zero_iff.1 h0
    clear h h0
    have hnil := fun wx => Lib.run_eql_slice_nil (P := Try.prog) wx 22 3 none 0 cap 0 0 Try.underlying22
    simp only [List.length_nil]
    go_enter Try.func7, Try.ntmps7
    go_wp2
    go_ret
    exact ⟨none, 0, rfl, Below.refl _ _, fun h => absurd h (by simp), fun x hx => by cases hx⟩
  | some a =>
    have hnil := fun wx => Lib.run_eql_slice_nil (P := Try.prog) wx 22 3 (some a) ns.length cap 0 0 Try.underlying22
    have H : Hid (Sl w (some a) ns) := h
    clear h
    have hmk := run_make_row' (P := Try.prog) 22 3 (.int .i64 0) 8 Try.underlying22 Try.info3 rfl .i64 .i64 ns.length (by omega) (by omega)
    go_enter Try.func7, Try.ntmps7
    go_wp2
    clear hmk hnil
    go_loopw [4] (fun i wr => ∃ k : Nat, k ≤ ns.length ∧ i = .int .i64 k ∧ Below w.heap.size w wr ∧
        Hid (wr.rowIs w.heap.size 3 ns.length (fun j => if j < k then .int .i64 (ns.getD j 0 : Nat) else .int .i64 0))) (fun i _ => ns.length - (intOf i).toNat)
    case atStart =>
      refine ⟨0, Nat.zero_le _, rfl, (Below.refl _ _).alloc (Nat.le_refl _) _, ?_⟩
      show World.rowIs _ _ _ _ _
      simpa using World.rowIs_made w (.int .i64 0) ns.length 3
    case round =>
      obtain ⟨k, hk, rfl, hnx, HR⟩ := hrel
      by_cases hlt : k < ns.length
      · obtain ⟨b, off, ea, hb, hc0⟩ := H.out k hlt
        obtain rfl : a = ⟨b, off, none⟩ := by simpa using ea
        clear ea
        have hc : wr.cell? ⟨b, off + k, none⟩ = some (.int .i64 (ns.getD k 0 : Nat)) := by rw [hnx.cell (p := ⟨b, off + k, none⟩) hb]; exact hc0
        have hcs : wr.cell? ⟨w.heap.size, k, none⟩ = some (.int .i64 0) := by have := HR.out.cell hlt; simpa using this
        have hfs : wr.frozen? ⟨w.heap.size, k, none⟩ = false := HR.out.frozen k
        obtain ⟨x, hx⟩ : ∃ x, x = ns.getD k 0 := ⟨_, rfl⟩
        rw [← hx] at hc
        have HX : Hid (x = ns.getD k 0) := hx
        have HN : Hid (Below w.heap.size w wr) := hnx
        clear hx H hc0 hnx
        go_wp2
        go_roundw
        case rel =>
          refine ⟨k + 1, by omega, by go_num, HN.out.setCell (p := ⟨w.heap.size, k, none⟩) (Nat.le_refl _) _, ?_⟩
          refine (HR.out.set k (.int .i64 x)).congr fun j hj => ?_
          by_cases e : j = k
          · subst e; rw [if_pos rfl, if_pos (by omega), HX.out]
          · by_cases e2 : j < k
            · rw [if_neg e, if_pos e2, if_pos (by omega)]
            · rw [if_neg e, if_neg e2, if_neg (by omega)]
        case measure => simp [intOf]; omega
      · have HN : Hid (Below w.heap.size w wr) := hnx
        clear hnx
        go_wp2
        go_ret
        exact ⟨some ⟨w.heap.size, 0, none⟩, ns.length, rfl, HN.out, fun _ => ⟨w.heap.size, rfl, ns.length, _, HR.out, Nat.le_refl _, fun j hj => by simp; omega⟩, fun x hx => by simp at hx; subst hx; exact Nat.le_refl _⟩
end Go.Proofs.Qxb6629158a
