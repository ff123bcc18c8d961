import Derived.Test.Qxb6629082aWj
namespace Go.Proofs.Qxb6629082a
open Go.RowKit
set_option linter.unusedVariables false

set_option maxRecDepth 100000 in
set_option maxHeartbeats 8000000 in
theorem inserted_any (m t r a pn pv : Option Addr) (ml mc tl tc rl rc cap pnc pvc : Nat) (st mi at_ : Int) (fs : List Fld) (nb vb : List Int) (s : ByteArray) (w : World) (h : Fields w a fs) (hn : a = none → fs = [] ∧ cap = 0) (hs : s.size ≤ 9223372036854775807)
    (h1 : ml ≤ 9223372036854775807) (h2 : tl ≤ 9223372036854775807) (h3 : rl ≤ 9223372036854775807) (h4 : fs.length ≤ 9223372036854775807) (hin : FldOk w ⟨pn, pnc, nb, pv, pvc, vb⟩) :
    Calls Try.prog 4 #[.slice m ml mc, .slice t tl tc, .int .i64 st, .slice r rl rc, .int .i64 mi, .slice a fs.length cap, .int .i64 at_, .slice pn nb.length pnc, .slice pv vb.length pvc, .string s] w fun e w' => e = .returned (.bool true) ∧ Below w.heap.size w w' := by
  obtain ⟨k0, hk0⟩ := isFirst_ex fs (Pl.str s)
  have H : Hid (Fields w a fs ∧ IsFirst fs (Pl.str s) k0 ∧ (a = none → fs = [] ∧ cap = 0) ∧ FldOk w ⟨pn, pnc, nb, pv, pvc, vb⟩) := ⟨h, hk0, hn, hin⟩
  have hkl := hk0.1
  have hnb := hin.2.2.1
  have hvb := hin.2.2.2
  simp only at hnb hvb
  clear h hk0 hn hin
  go_enter Try.func4, Try.ntmps4
  go_wp2_with fail
  refine (bytes12_any _ _ _ _ _ _ _ _ _ _ _ _ _ _ _ _ _ _ _ _ _ _ _ H.out.1 hs h1 h2 h3 h4 hnb hvb).mono ?_
  rintro e w' ⟨⟨bb, rfl⟩, hw⟩
  obtain rfl := hw.symm
  cases bb
  · go_wp2
    go_ret
    exact ⟨rfl, Below.refl _ _⟩
  go_wp2_with fail
  refine (tooBig_any _ _ _ _ _ _ _ _ _ _ _ _ _ _ _ _ _ _ _ _ H.out.1 hs h1 h2 h3 h4 hnb hvb).mono ?_
  rintro e w' ⟨hw, rfl | ⟨rfl, hl, hss⟩⟩
  · obtain rfl := hw
    go_wp2
    go_ret
    exact ⟨rfl, Below.refl _ _⟩
  obtain rfl := hw
  by_cases hp0 : at_ < 0
  · go_wp2
    go_ret
    exact ⟨rfl, Below.refl _ _⟩
  by_cases hp1 : (fs.length : Int) < at_
  · go_wp2
    go_ret
    exact ⟨rfl, Below.refl _ _⟩
  obtain ⟨p, rfl⟩ := Int.eq_ofNat_of_zero_le (show 0 ≤ at_ by omega)
  have hp : p ≤ fs.length := by omega
  clear hp0 hp1
  have hmk := run_make40c fs.length hl
  go_wp2_with fail
  refine (fieldsC_any _ _ _ _ H.out.1 hl H.out.2.2.1).mono ?_
  rintro e w1 ⟨a2, c2, rfl, hb1, hf1⟩
  have HA : Hid (∀ w2, Below w1.heap.size w1 w2 → Below w.heap.size w w2 ∧ Fields w2 a2 fs ∧ Fields w2 a fs) := fun w2 hb2 => ⟨below_chain hb1 hb2, hf1.below hb2, (H.out.1.below hb1).below hb2⟩
  clear hb1 hf1
  go_wp2_with fail
  clear hmk
  go_loopw [22, 23] (fun gr i wr => ∃ k : Nat, k ≤ p ∧ i = .int .i64 k ∧ gr = .slice (some ⟨w1.heap.size + 1, 0, none⟩) k (fs.length + 1) ∧ Hid (Mid w1 a2 fs.length c2 (insAt fs p ⟨pn, pnc, nb, pv, pvc, vb⟩) k wr)) (fun _ i _ => p - (intOf i).toNat)
  case atStart => exact ⟨0, Nat.zero_le _, rfl, rfl, mid_start w1 _ a2 fs.length c2 _ (by simp [go_sem])⟩
  case round =>
    obtain ⟨k, hk, rfl, rfl, HM⟩ := hrel
    by_cases hlt : k < p
    · obtain ⟨b, off, rfl, hbl, hat, hok⟩ := (HA.out _ HM.out.below).2.2 k (by omega)
      have hgk := insAt_lt ⟨pn, pnc, nb, pv, pvc, vb⟩ hlt hp
      generalize hf : fs.getD k Fld.no = f at hat hok hgk
      obtain ⟨na, nc, nm, va, vc, vb'⟩ := f
      obtain ⟨hc0, hc1⟩ := hat
      simp only at hc0 hc1
      have l1 : (k : Int) < (fs.length : Int) := by omega
      have l2 : (k : Int) < (p : Int) := by omega
      have HS : Hid ((insAt fs p ⟨pn, pnc, nb, pv, pvc, vb⟩).getD k Fld.no = ⟨na, nc, nm, va, vc, vb'⟩) := hgk
      obtain ⟨u0, u1, hu0, hu1, hv0, hv1⟩ := mid_cells HM.out (show k ≤ fs.length by omega)
      have hkn : k ≤ fs.length := by omega
      clear hok hf hgk
      go_wp2
      go_region
      go_wp2
      go_roundw
      case rel => exact ⟨k + 1, by omega, by go_num, rfl, (mid_step HM.out ⟨na, nc, nm, va, vc, vb'⟩ HS.out).drew⟩
      case measure => simp [intOf]; omega
    · obtain rfl : k = p := by omega
      obtain ⟨u0, u1, hu0, hu1, hv0, hv1⟩ := mid_cells HM.out hp
      have HS : Hid ((insAt fs k ⟨pn, pnc, nb, pv, pvc, vb⟩).getD k Fld.no = ⟨pn, pnc, nb, pv, pvc, vb⟩) := insAt_eq _ hp
      go_wp2
      have HM1 : Hid (Mid w1 a2 fs.length c2 (insAt fs k ⟨pn, pnc, nb, pv, pvc, vb⟩) (k + 1) (((wr.alloc (.cells #[.slice pn nb.length pnc, .slice pv vb.length pvc] 40)).setCell ⟨w1.heap.size + 1, k * 2, none⟩ (.slice pn nb.length pnc)).setCell ⟨w1.heap.size + 1, k * 2 + 1, none⟩ (.slice pv vb.length pvc))) := mid_step HM.out ⟨pn, pnc, nb, pv, pvc, vb⟩ HS.out
      clear hu0 hu1 hv0 hv1 HM HS
      go_loopw [22, 24] (fun gr i wr => ∃ j : Nat, k ≤ j ∧ j ≤ fs.length ∧ i = .int .i64 j ∧ gr = .slice (some ⟨w1.heap.size + 1, 0, none⟩) (j + 1) (fs.length + 1) ∧ Hid (Mid w1 a2 fs.length c2 (insAt fs k ⟨pn, pnc, nb, pv, pvc, vb⟩) (j + 1) wr)) (fun _ i _ => fs.length - (intOf i).toNat)
      case atStart => exact ⟨k, Nat.le_refl _, hp, rfl, rfl, HM1.out⟩
      case round =>
        clear HM1 hk hlt
        obtain ⟨j, hj1, hj2, rfl, rfl, HM2⟩ := hrel
        by_cases hlt : j < fs.length
        · obtain ⟨b, off, rfl, hbl, hat, hok⟩ := (HA.out _ HM2.out.below).2.2 j hlt
          have hgk := insAt_gt ⟨pn, pnc, nb, pv, pvc, vb⟩ hj1 hp
          generalize hf : fs.getD j Fld.no = f at hat hok hgk
          obtain ⟨na, nc, nm, va, vc, vb'⟩ := f
          obtain ⟨hc0, hc1⟩ := hat
          simp only at hc0 hc1
          have l1 : (j : Int) < (fs.length : Int) := by omega
          have HS : Hid ((insAt fs k ⟨pn, pnc, nb, pv, pvc, vb⟩).getD (j + 1) Fld.no = ⟨na, nc, nm, va, vc, vb'⟩) := hgk
          obtain ⟨u0, u1, hu0, hu1, hv0, hv1⟩ := mid_cells HM2.out (show j + 1 ≤ fs.length by omega)
          have hkn : j + 1 ≤ fs.length := by omega
          clear hok hf hgk
          go_wp2
          go_region
          go_wp2
          go_roundw
          case rel => exact ⟨j + 1, by omega, by omega, by go_num, rfl, (mid_step HM2.out ⟨na, nc, nm, va, vc, vb'⟩ HS.out).drew⟩
          case measure => simp [intOf]; omega
        · obtain rfl : j = fs.length := by omega
          have HG : Hid ((insAt fs k ⟨pn, pnc, nb, pv, pvc, vb⟩).length = fs.length + 1 ∧ Fields wr (some ⟨w1.heap.size + 1, 0, none⟩) (insAt fs k ⟨pn, pnc, nb, pv, pvc, vb⟩)) := ⟨insAt_length _ hp, mid_fields HM2.out (insAt_length _ hp) (ins_ok (HA.out _ HM2.out.below).2.2 (H.out.2.2.2.below (HA.out _ HM2.out.below).1) hp)⟩
          have HI : Hid ((k0 < k → IsFirst (insAt fs k ⟨pn, pnc, nb, pv, pvc, vb⟩) (Pl.str s) k0) ∧ (k ≤ k0 → Pl.Fold nb (Pl.str s) → IsFirst (insAt fs k ⟨pn, pnc, nb, pv, pvc, vb⟩) (Pl.str s) k) ∧ (k ≤ k0 → ¬ Pl.Fold nb (Pl.str s) → IsFirst (insAt fs k ⟨pn, pnc, nb, pv, pvc, vb⟩) (Pl.str s) (k0 + 1))) := first_ins ⟨pn, pnc, nb, pv, pvc, vb⟩ H.out.2.1 hp
          by_cases hA : k0 < k
          · have hlt0 : k0 < fs.length := by omega
            have HK : Hid (IsFirst (insAt fs k ⟨pn, pnc, nb, pv, pvc, vb⟩) (Pl.str s) k0) := HI.out.1 hA
            have hk1 : k0 < (insAt fs k ⟨pn, pnc, nb, pv, pvc, vb⟩).length := by rw [HG.out.1]; omega
            obtain ⟨b, off, rfl, hbl, hat, hok⟩ := H.out.1 k0 hlt0
            have hval : valOf fs k0 = .slice (fs.getD k0 Fld.no).va (fs.getD k0 Fld.no).vb.length (fs.getD k0 Fld.no).vc := by unfold valOf; rw [if_pos hlt0]
            generalize hf : fs.getD k0 Fld.no = f at hat hok hval
            obtain ⟨na, nc, nm, va, vc, vb'⟩ := f
            simp only at hval
            have HO : Hid (FldAt w b (off + k0 * 2) ⟨na, nc, nm, va, vc, vb'⟩ ∧ FldOk w ⟨na, nc, nm, va, vc, vb'⟩ ∧ b < w.heap.size) := ⟨hat, hok, hbl⟩
            have HV : Hid (valOf fs k0 = .slice va vb'.length vc) := hval
            clear hat hok hbl hval hf
            have HV1 : Hid (valOf (insAt fs k ⟨pn, pnc, nb, pv, pvc, vb⟩) k0 = .slice va vb'.length vc) := by show valOf _ _ = _; rw [val_ins_lt _ hA hp]; exact HV.out
            go_wp2_with fail
            refine (value_any w1.heap.size a2 c2 fs s k0 _ (HA.out _ (HM2.out.below.alloc (by have := HM2.out.size; omega) _)).2.1 (by omega) hs H.out.2.1 (by rw [World.cell?_alloc_lt _ _ _ (by have := HM2.out.size; simp; omega)]; exact HM2.out.cell)).mono ?_
            rw [HV.out, decide_eq_true hlt0]
            rintro e w5 ⟨rfl, hb5⟩
            have C5 : Hid (Below w1.heap.size w1 w5 ∧ w5.cell? ⟨wr.heap.size, 5, none⟩ = some (.slice (some ⟨w1.heap.size + 1, 0, none⟩) (insAt fs k ⟨pn, pnc, nb, pv, pvc, vb⟩).length (fs.length + 1)) ∧ Below wr.heap.size wr w5) := by
              refine ⟨(HM2.out.below.alloc (by have := HM2.out.size; omega) _).trans (hb5.mono (by have := HM2.out.size; simp; omega)), ?_, ((Below.refl _ _).alloc (Nat.le_refl _) _).trans (hb5.mono (by simp))⟩
              rw [hb5.cell (p := ⟨wr.heap.size, 5, none⟩) (by simp), HG.out.1]; simp [go_sem]
            clear hb5
            go_wp2_with fail
            refine (value_any wr.heap.size _ (fs.length + 1) (insAt fs k ⟨pn, pnc, nb, pv, pvc, vb⟩) s k0 _ (HG.out.2.below C5.out.2.2) (by rw [HG.out.1]; omega) hs HK.out C5.out.2.1).mono ?_
            rw [HV1.out, decide_eq_true hk1]
            rintro e w6 ⟨rfl, hb6⟩
            have C6 : Hid (Below w1.heap.size w1 w6) := C5.out.1.trans (hb6.mono C5.out.1.size)
            clear C5 hb6
            go_wp2_with fail
            refine (first_any _ _ fs s k0 k0 _ (HA.out _ C6.out).2.2 hl hs H.out.2.1 (.inl ⟨hlt0, rfl⟩)).mono ?_
            rintro e w7 ⟨rfl, q, rfl⟩
            have B6 : Hid (Below w.heap.size w w6) := (HA.out _ C6.out).1
            obtain ⟨hc0, hc1⟩ := HO.out.1.below HO.out.2.2 B6.out
            simp only at hc0 hc1
            have l1 : (k0 : Int) < (fs.length : Int) := by omega
            go_wp2_with fail
            refine (same_any va vc vb' true _ (HO.out.2.1.2.1.below (B6.out.trans (below_draws _ _ _))) HO.out.2.1.2.2.2).mono ?_
            rintro e w8 ⟨rfl, q2, rfl⟩
            have l3 : (k0 : Int) < (k : Int) := by omega
            go_wp2_with fail
            refine (same_any va vc vb' true _ (HO.out.2.1.2.1.below (B6.out.trans (below_draws _ _ _))) HO.out.2.1.2.2.2).mono ?_
            rintro e w10 ⟨rfl, q4, rfl⟩
            go_wp2
            go_ret
            exact ⟨rfl, B6.out.trans (below_draws _ _ _)⟩
          · by_cases hB : Pl.Fold nb (Pl.str s)
            · have HK : Hid (IsFirst (insAt fs k ⟨pn, pnc, nb, pv, pvc, vb⟩) (Pl.str s) k) := HI.out.2.1 (by omega) hB
              have HF : Hid (Pl.Fold nb (Pl.str s)) := hB
              have hk1 : k < (insAt fs k ⟨pn, pnc, nb, pv, pvc, vb⟩).length := by rw [HG.out.1]; omega
              have HV1 : Hid (valOf (insAt fs k ⟨pn, pnc, nb, pv, pvc, vb⟩) k = .slice pv vb.length pvc) := val_ins_eq _ hp
              clear hB
              by_cases hlt0 : k0 < fs.length
              · skip
                obtain ⟨b, off, rfl, hbl, hat, hok⟩ := H.out.1 k0 hlt0
                have hval : valOf fs k0 = .slice (fs.getD k0 Fld.no).va (fs.getD k0 Fld.no).vb.length (fs.getD k0 Fld.no).vc := by unfold valOf; rw [if_pos hlt0]
                generalize hf : fs.getD k0 Fld.no = f at hat hok hval
                obtain ⟨na, nc, nm, va, vc, vb'⟩ := f
                simp only at hval
                have HO : Hid (FldAt w b (off + k0 * 2) ⟨na, nc, nm, va, vc, vb'⟩ ∧ FldOk w ⟨na, nc, nm, va, vc, vb'⟩ ∧ b < w.heap.size) := ⟨hat, hok, hbl⟩
                have HV : Hid (valOf fs k0 = .slice va vb'.length vc) := hval
                clear hat hok hbl hval hf
                go_wp2_with fail
                refine (value_any w1.heap.size a2 c2 fs s k0 _ (HA.out _ (HM2.out.below.alloc (by have := HM2.out.size; omega) _)).2.1 (by omega) hs H.out.2.1 (by rw [World.cell?_alloc_lt _ _ _ (by have := HM2.out.size; simp; omega)]; exact HM2.out.cell)).mono ?_
                rw [HV.out, decide_eq_true hlt0]
                rintro e w5 ⟨rfl, hb5⟩
                have C5 : Hid (Below w1.heap.size w1 w5 ∧ w5.cell? ⟨wr.heap.size, 5, none⟩ = some (.slice (some ⟨w1.heap.size + 1, 0, none⟩) (insAt fs k ⟨pn, pnc, nb, pv, pvc, vb⟩).length (fs.length + 1)) ∧ Below wr.heap.size wr w5) := by
                  refine ⟨(HM2.out.below.alloc (by have := HM2.out.size; omega) _).trans (hb5.mono (by have := HM2.out.size; simp; omega)), ?_, ((Below.refl _ _).alloc (Nat.le_refl _) _).trans (hb5.mono (by simp))⟩
                  rw [hb5.cell (p := ⟨wr.heap.size, 5, none⟩) (by simp), HG.out.1]; simp [go_sem]
                clear hb5
                go_wp2_with fail
                refine (value_any wr.heap.size _ (fs.length + 1) (insAt fs k ⟨pn, pnc, nb, pv, pvc, vb⟩) s k _ (HG.out.2.below C5.out.2.2) (by rw [HG.out.1]; omega) hs HK.out C5.out.2.1).mono ?_
                rw [HV1.out, decide_eq_true hk1]
                rintro e w6 ⟨rfl, hb6⟩
                have C6 : Hid (Below w1.heap.size w1 w6) := C5.out.1.trans (hb6.mono C5.out.1.size)
                clear C5 hb6
                go_wp2_with fail
                refine (first_any _ _ fs s k0 k0 _ (HA.out _ C6.out).2.2 hl hs H.out.2.1 (.inl ⟨hlt0, rfl⟩)).mono ?_
                rintro e w7 ⟨rfl, q, rfl⟩
                have B6 : Hid (Below w.heap.size w w6) := (HA.out _ C6.out).1
                obtain ⟨hc0, hc1⟩ := HO.out.1.below HO.out.2.2 B6.out
                simp only at hc0 hc1
                have l1 : (k0 : Int) < (fs.length : Int) := by omega
                go_wp2_with fail
                refine (same_any va vc vb' true _ (HO.out.2.1.2.1.below (B6.out.trans (below_draws _ _ _))) HO.out.2.1.2.2.2).mono ?_
                rintro e w8 ⟨rfl, q2, rfl⟩
                have l3 : ¬ (k0 : Int) < (k : Int) := by omega
                go_wp2_with fail
                refine (foldEq_yes _ _ _ _ _ (H.out.2.2.2.1.below (B6.out.trans (below_draws _ _ _))) hnb hs HF.out).mono ?_
                rintro e w9 ⟨rfl, q3, rfl⟩
                go_wp2_with fail
                refine (same_any pv pvc vb true _ (H.out.2.2.2.2.1.below (B6.out.trans (below_draws _ _ _))) hvb).mono ?_
                rintro e w10 ⟨rfl, q4, rfl⟩
                go_wp2
                go_ret
                exact ⟨rfl, B6.out.trans (below_draws _ _ _)⟩
              · obtain rfl : k0 = fs.length := by omega
                have HV : Hid (valOf fs fs.length = .slice none 0 0) := by show valOf _ _ = _; unfold valOf; rw [if_neg (Nat.lt_irrefl _)]
                go_wp2_with fail
                refine (value_any w1.heap.size a2 c2 fs s fs.length _ (HA.out _ (HM2.out.below.alloc (by have := HM2.out.size; omega) _)).2.1 (by omega) hs H.out.2.1 (by rw [World.cell?_alloc_lt _ _ _ (by have := HM2.out.size; simp; omega)]; exact HM2.out.cell)).mono ?_
                rw [HV.out, decide_eq_false (Nat.lt_irrefl _)]
                rintro e w5 ⟨rfl, hb5⟩
                have C5 : Hid (Below w1.heap.size w1 w5 ∧ w5.cell? ⟨wr.heap.size, 5, none⟩ = some (.slice (some ⟨w1.heap.size + 1, 0, none⟩) (insAt fs k ⟨pn, pnc, nb, pv, pvc, vb⟩).length (fs.length + 1)) ∧ Below wr.heap.size wr w5) := by
                  refine ⟨(HM2.out.below.alloc (by have := HM2.out.size; omega) _).trans (hb5.mono (by have := HM2.out.size; simp; omega)), ?_, ((Below.refl _ _).alloc (Nat.le_refl _) _).trans (hb5.mono (by simp))⟩
                  rw [hb5.cell (p := ⟨wr.heap.size, 5, none⟩) (by simp), HG.out.1]; simp [go_sem]
                clear hb5
                go_wp2_with fail
                refine (value_any wr.heap.size _ (fs.length + 1) (insAt fs k ⟨pn, pnc, nb, pv, pvc, vb⟩) s k _ (HG.out.2.below C5.out.2.2) (by rw [HG.out.1]; omega) hs HK.out C5.out.2.1).mono ?_
                rw [HV1.out, decide_eq_true hk1]
                rintro e w6 ⟨rfl, hb6⟩
                have C6 : Hid (Below w1.heap.size w1 w6) := C5.out.1.trans (hb6.mono C5.out.1.size)
                clear C5 hb6
                go_wp2_with fail
                refine (first_any _ _ fs s fs.length (-1) _ (HA.out _ C6.out).2.2 hl hs H.out.2.1 (.inr ⟨rfl, rfl⟩)).mono ?_
                rintro e w7 ⟨rfl, q, rfl⟩
                have B6 : Hid (Below w.heap.size w w6) := (HA.out _ C6.out).1
                go_wp2_with fail
                refine (same_any none 0 [] false _ (fun i hi => absurd hi (Nat.not_lt_zero _)) (by simp)).mono ?_
                rintro e w8 ⟨rfl, q2, rfl⟩
                go_wp2_with fail
                refine (foldEq_yes _ _ _ _ _ (H.out.2.2.2.1.below (B6.out.trans (below_draws _ _ _))) hnb hs HF.out).mono ?_
                rintro e w9 ⟨rfl, q3, rfl⟩
                go_wp2_with fail
                refine (same_any pv pvc vb true _ (H.out.2.2.2.2.1.below (B6.out.trans (below_draws _ _ _))) hvb).mono ?_
                rintro e w10 ⟨rfl, q4, rfl⟩
                go_wp2
                go_ret
                exact ⟨rfl, B6.out.trans (below_draws _ _ _)⟩
            · have HK : Hid (IsFirst (insAt fs k ⟨pn, pnc, nb, pv, pvc, vb⟩) (Pl.str s) (k0 + 1)) := HI.out.2.2 (by omega) hB
              have HF : Hid (¬ Pl.Fold nb (Pl.str s)) := hB
              clear hB
              by_cases hlt0 : k0 < fs.length
              · have hk1 : k0 + 1 < (insAt fs k ⟨pn, pnc, nb, pv, pvc, vb⟩).length := by rw [HG.out.1]; omega
                obtain ⟨b, off, rfl, hbl, hat, hok⟩ := H.out.1 k0 hlt0
                have hval : valOf fs k0 = .slice (fs.getD k0 Fld.no).va (fs.getD k0 Fld.no).vb.length (fs.getD k0 Fld.no).vc := by unfold valOf; rw [if_pos hlt0]
                generalize hf : fs.getD k0 Fld.no = f at hat hok hval
                obtain ⟨na, nc, nm, va, vc, vb'⟩ := f
                simp only at hval
                have HO : Hid (FldAt w b (off + k0 * 2) ⟨na, nc, nm, va, vc, vb'⟩ ∧ FldOk w ⟨na, nc, nm, va, vc, vb'⟩ ∧ b < w.heap.size) := ⟨hat, hok, hbl⟩
                have HV : Hid (valOf fs k0 = .slice va vb'.length vc) := hval
                clear hat hok hbl hval hf
                have HV1 : Hid (valOf (insAt fs k ⟨pn, pnc, nb, pv, pvc, vb⟩) (k0 + 1) = .slice va vb'.length vc) := by show valOf _ _ = _; rw [val_ins_gt _ (by omega) hp]; exact HV.out
                go_wp2_with fail
                refine (value_any w1.heap.size a2 c2 fs s k0 _ (HA.out _ (HM2.out.below.alloc (by have := HM2.out.size; omega) _)).2.1 (by omega) hs H.out.2.1 (by rw [World.cell?_alloc_lt _ _ _ (by have := HM2.out.size; simp; omega)]; exact HM2.out.cell)).mono ?_
                rw [HV.out, decide_eq_true hlt0]
                rintro e w5 ⟨rfl, hb5⟩
                have C5 : Hid (Below w1.heap.size w1 w5 ∧ w5.cell? ⟨wr.heap.size, 5, none⟩ = some (.slice (some ⟨w1.heap.size + 1, 0, none⟩) (insAt fs k ⟨pn, pnc, nb, pv, pvc, vb⟩).length (fs.length + 1)) ∧ Below wr.heap.size wr w5) := by
                  refine ⟨(HM2.out.below.alloc (by have := HM2.out.size; omega) _).trans (hb5.mono (by have := HM2.out.size; simp; omega)), ?_, ((Below.refl _ _).alloc (Nat.le_refl _) _).trans (hb5.mono (by simp))⟩
                  rw [hb5.cell (p := ⟨wr.heap.size, 5, none⟩) (by simp), HG.out.1]; simp [go_sem]
                clear hb5
                go_wp2_with fail
                refine (value_any wr.heap.size _ (fs.length + 1) (insAt fs k ⟨pn, pnc, nb, pv, pvc, vb⟩) s (k0 + 1) _ (HG.out.2.below C5.out.2.2) (by rw [HG.out.1]; omega) hs HK.out C5.out.2.1).mono ?_
                rw [HV1.out, decide_eq_true hk1]
                rintro e w6 ⟨rfl, hb6⟩
                have C6 : Hid (Below w1.heap.size w1 w6) := C5.out.1.trans (hb6.mono C5.out.1.size)
                clear C5 hb6
                go_wp2_with fail
                refine (first_any _ _ fs s k0 k0 _ (HA.out _ C6.out).2.2 hl hs H.out.2.1 (.inl ⟨hlt0, rfl⟩)).mono ?_
                rintro e w7 ⟨rfl, q, rfl⟩
                have B6 : Hid (Below w.heap.size w w6) := (HA.out _ C6.out).1
                obtain ⟨hc0, hc1⟩ := HO.out.1.below HO.out.2.2 B6.out
                simp only at hc0 hc1
                have l1 : (k0 : Int) < (fs.length : Int) := by omega
                go_wp2_with fail
                refine (same_any va vc vb' true _ (HO.out.2.1.2.1.below (B6.out.trans (below_draws _ _ _))) HO.out.2.1.2.2.2).mono ?_
                rintro e w8 ⟨rfl, q2, rfl⟩
                have l3 : ¬ (k0 : Int) < (k : Int) := by omega
                go_wp2_with fail
                refine (foldEq_no _ _ _ _ _ (H.out.2.2.2.1.below (B6.out.trans (below_draws _ _ _))) hnb hs HF.out).mono ?_
                rintro e w9 ⟨rfl, q3, rfl⟩
                go_wp2_with fail
                refine (same_any va vc vb' true _ (HO.out.2.1.2.1.below (B6.out.trans (below_draws _ _ _))) HO.out.2.1.2.2.2).mono ?_
                rintro e w10 ⟨rfl, q4, rfl⟩
                go_wp2
                go_ret
                exact ⟨rfl, B6.out.trans (below_draws _ _ _)⟩
              · obtain rfl : k0 = fs.length := by omega
                have HV : Hid (valOf fs fs.length = .slice none 0 0) := by show valOf _ _ = _; unfold valOf; rw [if_neg (Nat.lt_irrefl _)]
                have hk1 : ¬ fs.length + 1 < (insAt fs k ⟨pn, pnc, nb, pv, pvc, vb⟩).length := by rw [HG.out.1]; omega
                have HV1 : Hid (valOf (insAt fs k ⟨pn, pnc, nb, pv, pvc, vb⟩) (fs.length + 1) = .slice none 0 0) := by show valOf _ _ = _; rw [val_ins_gt _ hp hp]; exact HV.out
                go_wp2_with fail
                refine (value_any w1.heap.size a2 c2 fs s fs.length _ (HA.out _ (HM2.out.below.alloc (by have := HM2.out.size; omega) _)).2.1 (by omega) hs H.out.2.1 (by rw [World.cell?_alloc_lt _ _ _ (by have := HM2.out.size; simp; omega)]; exact HM2.out.cell)).mono ?_
                rw [HV.out, decide_eq_false (Nat.lt_irrefl _)]
                rintro e w5 ⟨rfl, hb5⟩
                have C5 : Hid (Below w1.heap.size w1 w5 ∧ w5.cell? ⟨wr.heap.size, 5, none⟩ = some (.slice (some ⟨w1.heap.size + 1, 0, none⟩) (insAt fs k ⟨pn, pnc, nb, pv, pvc, vb⟩).length (fs.length + 1)) ∧ Below wr.heap.size wr w5) := by
                  refine ⟨(HM2.out.below.alloc (by have := HM2.out.size; omega) _).trans (hb5.mono (by have := HM2.out.size; simp; omega)), ?_, ((Below.refl _ _).alloc (Nat.le_refl _) _).trans (hb5.mono (by simp))⟩
                  rw [hb5.cell (p := ⟨wr.heap.size, 5, none⟩) (by simp), HG.out.1]; simp [go_sem]
                clear hb5
                go_wp2_with fail
                refine (value_any wr.heap.size _ (fs.length + 1) (insAt fs k ⟨pn, pnc, nb, pv, pvc, vb⟩) s (fs.length + 1) _ (HG.out.2.below C5.out.2.2) (by rw [HG.out.1]; omega) hs HK.out C5.out.2.1).mono ?_
                rw [HV1.out, decide_eq_false hk1]
                rintro e w6 ⟨rfl, hb6⟩
                have C6 : Hid (Below w1.heap.size w1 w6) := C5.out.1.trans (hb6.mono C5.out.1.size)
                clear C5 hb6
                go_wp2_with fail
                refine (first_any _ _ fs s fs.length (-1) _ (HA.out _ C6.out).2.2 hl hs H.out.2.1 (.inr ⟨rfl, rfl⟩)).mono ?_
                rintro e w7 ⟨rfl, q, rfl⟩
                have B6 : Hid (Below w.heap.size w w6) := (HA.out _ C6.out).1
                go_wp2_with fail
                refine (same_any none 0 [] false _ (fun i hi => absurd hi (Nat.not_lt_zero _)) (by simp)).mono ?_
                rintro e w8 ⟨rfl, q2, rfl⟩
                go_wp2_with fail
                refine (foldEq_no _ _ _ _ _ (H.out.2.2.2.1.below (B6.out.trans (below_draws _ _ _))) hnb hs HF.out).mono ?_
                rintro e w9 ⟨rfl, q3, rfl⟩
                go_wp2_with fail
                refine (same_any none 0 [] false _ (fun i hi => absurd hi (Nat.not_lt_zero _)) (by simp)).mono ?_
                rintro e w10 ⟨rfl, q4, rfl⟩
                go_wp2
                go_ret
                exact ⟨rfl, B6.out.trans (below_draws _ _ _)⟩
end Go.Proofs.Qxb6629082a
