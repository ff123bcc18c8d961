import Derived.Test.Qxb6629082aWe
import Derived.Laws.BytesArg
namespace Go.Proofs.Qxb6629082a
open Go.RowKit
set_option linter.unusedVariables false

/-- The string with the case of every ASCII letter swapped. -/
def swapS (s : ByteArray) : ByteArray := strOfNums ((Pl.str s).map Pl.swI)
theorem size_swapS (s : ByteArray) : (swapS s).size = s.size := by unfold swapS; rw [strOfNums_size, List.length_map, Pl.str_length]
theorem str_swapS (s : ByteArray) : Pl.str (swapS s) = (Pl.str s).map Pl.swI := by
  apply List.ext_getElem
  · rw [Pl.str_length, size_swapS, List.length_map, Pl.str_length]
  · intro i h1 h2
    have hi : i < (Pl.str s).length := by simpa using h2
    have hb := Pl.str_bounds s i
    have e0 : (Pl.str s).getD i 0 = (Pl.str s)[i] := by simp [List.getD_eq_getElem?_getD, hi]
    rw [e0] at hb
    have hsb := Pl.swI_bounds _ hb.1 hb.2
    have e1 : (Pl.str (swapS s))[i] = (((swapS s).data.toList[i]'(by simpa [Pl.str] using h1)).toNat : Int) := by simp [Pl.str]
    rw [e1]
    have e2 : (swapS s).data.toList = ((Pl.str s).map Pl.swI).map fun n => UInt8.ofNat n.toNat := strOfNums_data _
    simp only [e2, List.getElem_map]
    rw [UInt8.toNat_ofNat']
    omega

theorem Try.info5 : (Try.prog.info? 5).map (fun i => (i.zero, i.size, i.bytes)) = some (some (.int .u8 0), 1, 1) := by kernel_rfl

theorem swap_any (s : ByteArray) (w : World) (hs : s.size ≤ 1048576) :
    Calls Try.prog 9 #[.string s] w fun e w' => e = .returned (.string (swapS s)) ∧ Below w.heap.size w w' := by
  have hmk := run_make_row' (P := Try.prog) 22 5 (.int .u8 0) 1 Try.underlying22 Try.info5 rfl .i64 .i64 s.size (by omega) (by omega)
  go_enter Try.func9, Try.ntmps9
  go_wp2
  clear hmk
  go_loopw [4] (fun i wr => ∃ k : Nat, k ≤ s.size ∧ i = .int .i64 k ∧ Hid (Below w.heap.size w wr) ∧ Hid (wr.rowIs w.heap.size 5 s.size (fun j => if j < k then .int .u8 (Pl.swI ((Pl.str s).getD j 0)) else .int .u8 0))) (fun i _ => s.size - (intOf i).toNat)
  case atStart =>
    refine ⟨0, Nat.zero_le _, rfl, (Below.refl _ _).alloc (Nat.le_refl _) _, ?_⟩
    show World.rowIs _ _ _ _ _
    simpa using World.rowIs_made w (.int .u8 0) s.size 5
  case round =>
    obtain ⟨k, hk, rfl, HB, HR⟩ := hrel
    by_cases hlt : k < s.size
    · have hcs : wr.cell? ⟨w.heap.size, k, none⟩ = some (.int .u8 0) := by have := HR.out.cell hlt; simpa using this
      have hfs : wr.frozen? ⟨w.heap.size, k, none⟩ = false := HR.out.frozen k
      have HX : Hid ((Pl.str s).getD k 0 = (s[k].toNat : Int)) := Pl.str_get s k hlt
      have l2 : (k : Int) < (s.size : Int) := by omega
      have hy0 : 0 ≤ (s[k].toNat : Int) := by omega
      have hy1 : (s[k].toNat : Int) ≤ 255 := by have := s[k].toNat_lt; omega
      have fin : ∀ v : Int, v = Pl.swI (s[k].toNat : Int) → (wr.setCell ⟨w.heap.size, k, none⟩ (.int .u8 v)).rowIs w.heap.size 5 s.size (fun j => if j < k + 1 then .int .u8 (Pl.swI ((Pl.str s).getD j 0)) else .int .u8 0) := by
        intro v hv
        refine (HR.out.set k (.int .u8 v)).congr fun j hj => ?_
        by_cases e : j = k
        · subst e; rw [if_pos rfl, if_pos (by omega), HX.out, hv]
        · by_cases e2 : j < k
          · rw [if_neg e, if_pos e2, if_pos (by omega)]
          · rw [if_neg e, if_neg e2, if_neg (by omega)]
      have FIN : Hid (∀ v : Int, v = Pl.swI (s[k].toNat : Int) → (wr.setCell ⟨w.heap.size, k, none⟩ (.int .u8 v)).rowIs w.heap.size 5 s.size (fun j => if j < k + 1 then .int .u8 (Pl.swI ((Pl.str s).getD j 0)) else .int .u8 0)) := fin
      clear fin
      by_cases h1 : 97 ≤ (s[k].toNat : Int)
      · by_cases h2 : (s[k].toNat : Int) ≤ 122
        · go_wp2
          go_roundw
          case rel => exact ⟨k + 1, by omega, by go_num, HB.out.setCell (p := ⟨w.heap.size, k, none⟩) (Nat.le_refl _) _, FIN.out _ (by unfold Pl.swI; rw [if_pos ⟨h1, h2⟩])⟩
          case measure => simp [intOf]; omega
        · have h3 : 65 ≤ (s[k].toNat : Int) := by omega
          have h4 : ¬ (s[k].toNat : Int) ≤ 90 := by omega
          go_wp2
          go_roundw
          case rel => exact ⟨k + 1, by omega, by go_num, HB.out.setCell (p := ⟨w.heap.size, k, none⟩) (Nat.le_refl _) _, FIN.out _ (by unfold Pl.swI; rw [if_neg (by omega), if_neg (by omega)])⟩
          case measure => simp [intOf]; omega
      · by_cases h3 : 65 ≤ (s[k].toNat : Int)
        · by_cases h4 : (s[k].toNat : Int) ≤ 90
          · go_wp2
            go_roundw
            case rel => exact ⟨k + 1, by omega, by go_num, HB.out.setCell (p := ⟨w.heap.size, k, none⟩) (Nat.le_refl _) _, FIN.out _ (by unfold Pl.swI; rw [if_neg (by omega), if_pos (by omega)])⟩
            case measure => simp [intOf]; omega
          · go_wp2
            go_roundw
            case rel => exact ⟨k + 1, by omega, by go_num, HB.out.setCell (p := ⟨w.heap.size, k, none⟩) (Nat.le_refl _) _, FIN.out _ (by unfold Pl.swI; rw [if_neg (by omega), if_neg (by omega)])⟩
            case measure => simp [intOf]; omega
        · go_wp2
          go_roundw
          case rel => exact ⟨k + 1, by omega, by go_num, HB.out.setCell (p := ⟨w.heap.size, k, none⟩) (Nat.le_refl _) _, FIN.out _ (by unfold Pl.swI; rw [if_neg (by omega), if_neg (by omega)])⟩
          case measure => simp [intOf]; omega
    · have hcv := run_convert_bytes_arg (P := Try.prog) wr 22 5 Try.underlying22 Try.underlying5 w.heap.size 0 s.size s.size ((Pl.str s).map Pl.swI) (by simp [Pl.str_length]) (fun i hi => by
        rw [Nat.zero_add, HR.out.cell hi, if_pos (by omega), Pl.getD_map_swI _ i (by rw [Pl.str_length]; exact hi)]) 9 Try.underlying9
      change _ = Result.ok (Value.string (swapS s)) wr at hcv
      clear HR
      go_wp2
      go_ret
      exact ⟨rfl, HB.out⟩
end Go.Proofs.Qxb6629082a
