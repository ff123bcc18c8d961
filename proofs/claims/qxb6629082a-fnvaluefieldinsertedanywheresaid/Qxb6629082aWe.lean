import Derived.Test.Qxb6629082aWd
import Derived.RegionTactic
namespace Go.Proofs.Qxb6629082a
open Go.RowKit
set_option linter.unusedVariables false

theorem Try.info40 : (Try.prog.info? 40).map (fun i => (i.zero, i.size, i.bytes)) = some (some (.agg #[.slice none 0 0, .slice none 0 0]), 2, 48) := by kernel_rfl

theorem run_make40 (n : Nat) (h : n ≤ 65537) (w : World) : (Instr.makeSlice 27 (.int .i64 (n : Int)) (.int .i64 (n : Int))).run Try.prog w =
    .ok (.slice (some ⟨w.heap.size, 0, none⟩) n n) (w.alloc (.cells (madeCells #[.slice none 0 0, .slice none 0 0] (n * 2)) 40)) := by
  obtain ⟨i, hi, hzz⟩ := Option.map_eq_some_iff.1 Try.info40
  simp only [Prod.mk.injEq] at hzz
  obtain ⟨hz, hs, hb⟩ := hzz
  have hr := run_make (P := Try.prog) w 27 40 i _ Try.underlying27 hi hz .i64 .i64 n n (by omega) (Int.le_refl _) (by rw [hb]; omega) (by omega)
  simpa [hs, Value.cells] using hr

theorem fields_nil (w : World) : Calls Try.prog 7 #[.slice none 0 0] w fun e w' => e = .returned (.slice none 0 0) ∧ w' = w := by
  have hnil := fun wx => Lib.run_eql_slice_nil (P := Try.prog) wx 23 37 none 0 0 0 0 Try.underlying23
  go_enter Try.func7, Try.ntmps7
  go_wp2
  go_ret
  exact ⟨rfl, rfl⟩

theorem fields_any (a : Addr) (cap : Nat) (fs : List Fld) (w : World) (h : Fields w (some a) fs) (hl : fs.length ≤ 65536) :
    Calls Try.prog 7 #[.slice (some a) fs.length cap] w fun e w' => e = .returned (.slice (some ⟨w.heap.size, 0, none⟩) fs.length fs.length) ∧ Below w.heap.size w w' ∧ Fields w' (some ⟨w.heap.size, 0, none⟩) fs := by
  have H : Hid (Fields w (some a) fs) := h
  clear h
  have hnil := fun wx => Lib.run_eql_slice_nil (P := Try.prog) wx 23 37 (some a) fs.length cap 0 0 Try.underlying23
  have hmk := run_make40 fs.length (by omega)
  go_enter Try.func7, Try.ntmps7
  go_wp2
  clear hnil hmk
  go_loopw [4] (fun i wr => ∃ k : Nat, k ≤ fs.length ∧ i = .int .i64 k ∧ Below w.heap.size w wr ∧
      Hid (∃ f, wr.rowIs w.heap.size 40 (fs.length * 2) f ∧ ∀ j, j < k → f (j * 2) = .slice (fs.getD j Fld.no).na (fs.getD j Fld.no).nm.length (fs.getD j Fld.no).nc ∧ f (j * 2 + 1) = .slice (fs.getD j Fld.no).va (fs.getD j Fld.no).vb.length (fs.getD j Fld.no).vc)) (fun i _ => fs.length - (intOf i).toNat)
  case atStart =>
    refine ⟨0, Nat.zero_le _, rfl, (Below.refl _ _).alloc (Nat.le_refl _) _, fun i => (#[.slice none 0 0, .slice none 0 0] : Array Value)[i % 2]!, ?_, fun j hj => absurd hj (Nat.not_lt_zero _)⟩
    have := World.rowIs_alloc w (madeCells #[.slice none 0 0, .slice none 0 0] (fs.length * 2)) 40 (fun i => (#[.slice none 0 0, .slice none 0 0] : Array Value)[i % 2]!) (fun i hi => by rw [size_madeCells] at hi; simp [madeCells, hi])
    rwa [size_madeCells] at this
  case round =>
    obtain ⟨k, hk, rfl, hnx, HR⟩ := hrel
    by_cases hlt : k < fs.length
    · obtain ⟨b, off, ea, hbl, hat, hok⟩ := H.out k hlt
      obtain rfl : a = ⟨b, off, none⟩ := by simpa using ea
      clear ea
      have hat' := hat.below hbl hnx
      generalize hf : fs.getD k Fld.no = f at hat'
      obtain ⟨na, nc, nm, va, vc, vb⟩ := f
      obtain ⟨hc0, hc1⟩ := hat'
      simp only at hc0 hc1
      obtain ⟨g, hg, hgk⟩ := HR.out
      have hw0 : wr.cell? ⟨w.heap.size, k * 2, none⟩ = some (g (k * 2)) := hg.cell (by omega)
      have hw1 : wr.cell? ⟨w.heap.size, k * 2 + 1, none⟩ = some (g (k * 2 + 1)) := hg.cell (by omega)
      have hf0 : wr.frozen? ⟨w.heap.size, k * 2, none⟩ = false := hg.frozen _
      have hf1 : wr.frozen? ⟨w.heap.size, k * 2 + 1, none⟩ = false := hg.frozen _
      have l1 : (k : Int) < (fs.length : Int) := by omega
      have HX : Hid (wr.rowIs w.heap.size 40 (fs.length * 2) g ∧ Below w.heap.size w wr) := ⟨hg, hnx⟩
      have HF : Hid (fs.getD k Fld.no = ⟨na, nc, nm, va, vc, vb⟩) := hf
      have HG : Hid (∀ j, j < k → g (j * 2) = .slice (fs.getD j Fld.no).na (fs.getD j Fld.no).nm.length (fs.getD j Fld.no).nc ∧ g (j * 2 + 1) = .slice (fs.getD j Fld.no).va (fs.getD j Fld.no).vb.length (fs.getD j Fld.no).vc) := hgk
      clear hg hgk hat hok hnx hf HR
      go_wp2
      go_region
      go_wp2
      go_roundw
      case rel =>
        refine ⟨k + 1, by omega, by go_num, ((HX.out.2.setCell (p := ⟨w.heap.size, k * 2, none⟩) (Nat.le_refl _) _).setCell (p := ⟨w.heap.size, k * 2 + 1, none⟩) (Nat.le_refl _) _).drew, _, ((HX.out.1.set (k * 2) (.slice na nm.length nc)).set (k * 2 + 1) (.slice va vb.length vc)).drew, fun j hj => ?_⟩
        by_cases e : j = k
        · subst e
          rw [HF.out]
          refine ⟨?_, by rw [if_pos rfl]⟩
          rw [if_neg (by omega), if_pos rfl]
        · have h1 := HG.out j (by omega)
          refine ⟨?_, ?_⟩
          · rw [if_neg (by omega), if_neg (by omega)]; exact h1.1
          · rw [if_neg (by omega), if_neg (by omega)]; exact h1.2
      case measure => simp [intOf]; omega
    · have HN : Hid (Below w.heap.size w wr) := hnx
      clear hnx
      go_wp2
      go_ret
      refine ⟨rfl, HN.out, fun i hi => ?_⟩
      obtain ⟨g, hg, hgk⟩ := HR.out
      have h1 := hgk i (by omega)
      obtain ⟨b, off, ea, hbl, hat, hok⟩ := H.out i hi
      refine ⟨w.heap.size, 0, rfl, hg.lt, ⟨?_, ?_⟩, hok.below HN.out⟩
      · rw [Nat.zero_add, hg.cell (by omega), h1.1]
      · rw [Nat.zero_add, hg.cell (by omega), h1.2]
end Go.Proofs.Qxb6629082a
