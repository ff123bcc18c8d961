import Derived.Test.Qxb6629039aWc
import Derived.Deep.OwnRows
namespace Go.Proofs.Qxb6629039a
open Go.RowKit

theorem newDays_any (a : Option Addr) (n c : Nat) (w : World) :
    Calls Try.prog 13 #[.slice a n c] w fun e w' => e = .returned (.agg #[.slice a n c]) ∧ ∃ c1, w' = w.alloc (.cells c1 27) := by
  go_enter Try.func13, Try.ntmps13
  go_wp2
  simp [bodyPost, results, Try.results13, go_sem]
  exact ⟨_, rfl⟩

theorem Try.info29 : (Try.prog.info? 29).map (fun i => (i.zero, i.size, i.bytes)) = some (some (.int .i32 0), 1, 4) := by kernel_rfl

theorem build_any (a : Option Addr) (cap : Nat) (zs : List Int) (w : World) (h : Sl w a zs) (hl : zs.length ≤ 65536) :
    Calls Try.prog 7 #[.slice a zs.length cap] w fun e w' => e = .returned (.agg #[.slice (some ⟨w.heap.size + 1, 0, none⟩) zs.length zs.length]) ∧ Below w.heap.size w w' ∧ Sl w' (some ⟨w.heap.size + 1, 0, none⟩) zs := by
  have H : Hid (Sl w a zs) := h
  clear h
  have hmk := run_make_row' (P := Try.prog) 25 29 (.int .i32 0) 4 Try.underlying25 Try.info29 rfl .i64 .i64 zs.length (by omega) (by omega)
  go_enter Try.func7, Try.ntmps7
  go_wp2
  clear hmk
  go_loopw [4] (fun i wr => ∃ k : Nat, k ≤ zs.length ∧ i = .int .i64 k ∧ Below w.heap.size w wr ∧ w.heap.size + 1 < wr.heap.size ∧ Hid (wr.rowIs w.heap.size 27 1 (fun _ => .slice none 0 0)) ∧
      Hid (wr.rowIs (w.heap.size + 1) 29 zs.length (fun j => if j < k then .int .i32 (zs.getD j 0) else .int .i32 0))) (fun i _ => zs.length - (intOf i).toNat)
  case atStart =>
    refine ⟨0, Nat.zero_le _, rfl, ((Below.refl _ _).alloc (Nat.le_refl _) _).alloc (by simp) _, by simp, ?_, ?_⟩
    · exact World.rowIs.alloc (World.rowIs_alloc w #[.slice none 0 0] 27 _ (fun i hi => by simp at hi; subst hi; rfl)) _
    · have := World.rowIs_made (w.alloc (.cells #[.slice none 0 0] 27)) (.int .i32 0) zs.length 29
      show World.rowIs _ _ _ _ _
      simpa using this
  case round =>
    obtain ⟨k, hk, rfl, hnx, hsz, HB, HR⟩ := hrel
    by_cases hlt : k < zs.length
    · obtain ⟨b, off, rfl, hb, hc0⟩ := H.out k hlt
      have hc : wr.cell? ⟨b, off + k, none⟩ = some (.int .i32 (zs.getD k 0)) := by rw [hnx.cell (p := ⟨b, off + k, none⟩) hb]; exact hc0
      have hcs : wr.cell? ⟨w.heap.size + 1, k, none⟩ = some (.int .i32 0) := by have := HR.out.cell hlt; simpa using this
      have hfs : wr.frozen? ⟨w.heap.size + 1, k, none⟩ = false := HR.out.frozen k
      obtain ⟨x, hx⟩ : ∃ x, x = zs.getD k 0 := ⟨_, rfl⟩
      rw [← hx] at hc
      have HX : Hid (x = zs.getD k 0) := hx
      have HN : Hid (Below w.heap.size w wr) := hnx
      clear hx H hc0 hnx
      go_wp2
      go_roundw
      case rel =>
        refine ⟨k + 1, by omega, by go_num, HN.out.setCell (by simp) _, by simpa [World.setCell] using hsz, HB.out.setOther (by simp) _, ?_⟩
        refine (HR.out.set k (.int .i32 x)).congr fun j hj => ?_
        by_cases e : j = k
        · subst e; simp [HX.out]
        · by_cases e2 : j < k
          · simp [e, e2]; omega
          · simp [e, e2]; omega
      case measure => simp [intOf]; omega
    · have hcb : ∀ o, (wr.alloc o).cell? ⟨w.heap.size, 0, none⟩ = some (.slice none 0 0) := fun o => (HB.out.alloc o).cell (Nat.lt_succ_self _)
      have hfb : ∀ o, (wr.alloc o).frozen? ⟨w.heap.size, 0, none⟩ = false := fun o => (HB.out.alloc o).frozen 0
      have HN : Hid (Below w.heap.size w wr) := hnx
      clear hnx
      go_wp2_with (go_at_call 13; refine (newDays_any _ _ _ _).mono ?_; rintro e w' ⟨rfl, c1, rfl⟩)
      refine bodyPost_ret (v := .agg #[.slice (some ⟨w.heap.size + 1, 0, none⟩) zs.length zs.length]) (by simp [results, Try.results7, go_sem, hcb]) rfl ⟨rfl, (HN.out.alloc (by omega) _).setCell (by simp) _, fun i hi => ?_⟩
      refine ⟨w.heap.size + 1, 0, rfl, by simp [World.setCell]; omega, ?_⟩
      have := ((HR.out.alloc (.cells c1 27)).setOther (a := ⟨w.heap.size, 0, none⟩) (by simp) (.slice (some ⟨w.heap.size + 1, 0, none⟩) zs.length zs.length)).cell hi
      rw [Nat.zero_add, this, if_pos (by omega)]
end Go.Proofs.Qxb6629039a
