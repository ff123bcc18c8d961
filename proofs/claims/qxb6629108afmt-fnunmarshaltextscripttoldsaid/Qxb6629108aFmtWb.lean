import Derived.Test.Qxb6629108aFmtWa
namespace Go.Proofs.Qxb6629108aFmt
open Go.RowKit Go.Extern.Stop Go.Stop Go.Extern
set_option linter.unusedVariables false

theorem bcell {B : Nat} {W w1 : World} (hb : Below B W w1) : (∀ b o, b < B → w1.cell? ⟨b, o, none⟩ = W.cell? ⟨b, o, none⟩) ∧ (∀ b o, b < B → w1.frozen? ⟨b, o, none⟩ = W.frozen? ⟨b, o, none⟩) :=
  ⟨fun b o h => hb.cell (p := ⟨b, o, none⟩) h, fun b o h => hb.frozen (p := ⟨b, o, none⟩) h⟩

/-- A slice's bytes are the string s. -/
def By (w : World) (a : Option Addr) (s : ByteArray) : Prop :=
  (a = none → s.size = 0) ∧ ∀ j (hj : j < s.data.toList.length), ∃ x, a = some x ∧ x.block < w.heap.size ∧ w.cell? (x.add j) = some (.int .u8 (s.data.toList[j].toNat : Int))
theorem add_block (x : Addr) (j : Nat) : (x.add j).block = x.block := by unfold Addr.add; split <;> rfl
theorem By.below {w w' : World} {a : Option Addr} {s : ByteArray} (h : By w a s) (hb : Below w.heap.size w w') : By w' a s := by
  refine ⟨h.1, fun j hj => ?_⟩
  obtain ⟨x, e, hlt, hc⟩ := h.2 j hj
  exact ⟨x, e, Nat.lt_of_lt_of_le hlt hb.size, by rw [hb.cell (by rw [add_block]; exact hlt)]; exact hc⟩

/-- 'string(b)'. -/
theorem conv_any {w : World} {a : Option Addr} {s : ByteArray} (h : By w a s) (cap : Nat) (dst : TypeId) (hd : Tryf.prog.underlying dst = some .string) : (convert 22 dst (.slice a s.size cap)).run Tryf.prog w = .ok (.string s) w := by
  cases a with
  | none =>
    have h0 := h.1 rfl
    have e : s = ⟨#[]⟩ := by
      obtain ⟨d⟩ := s
      have : d.size = 0 := h0
      rw [Array.size_eq_zero_iff.1 this]
    subst e
    exact run_convert_bytes_nil w 22 5 Tryf.underlying22 Tryf.underlying5 _ _ dst hd
  | some x =>
    have := run_convert_bytes_back (P := Tryf.prog) w 22 dst 5 x cap s.data.toList Tryf.underlying22 Tryf.underlying5 hd (fun j hj => by
      obtain ⟨y, e, _, hc⟩ := h.2 j hj
      simp at e; subst e; exact hc)
    simpa using this

/-- '[]byte(s)': some capacity, some block. -/
theorem conv_back (w : World) (s : ByteArray) : ∃ cap o, (convert 9 22 (.string s)).run Tryf.prog w = .ok (.slice (some ⟨w.heap.size, 0, none⟩) s.size cap) (w.alloc o).drew ∧ By (w.alloc o).drew (some ⟨w.heap.size, 0, none⟩) s := by
  refine ⟨_, _, run_bytes_of_string w 9 22 5 s Tryf.underlying9 Tryf.underlying22 Tryf.underlying5, ⟨(fun h => by cases h), fun j hj => ⟨_, rfl, by simp, ?_⟩⟩⟩
  have hj' : j < s.data.size := by simpa using hj
  have e : (⟨w.heap.size, 0, none⟩ : Addr).add j = ⟨w.heap.size, j, none⟩ := by unfold Addr.add; split <;> simp_all
  rw [e]
  show (w.alloc _).cell? _ = _
  rw [World.cell?_alloc_mark, bytesRow_at s _ j hj']
  simp

theorem unm_yes (lb cap : Nat) (a : Option Addr) (s old : ByteArray) (w : World) (h : By w a s) (ho : Off s) (hlt : lb < w.heap.size) (hc : w.cell? ⟨lb, 0, none⟩ = some (.string old)) (hf : w.frozen? ⟨lb, 0, none⟩ = false) :
    Calls Tryf.prog 6 #[.pointer (some ⟨lb, 0, none⟩), .slice a s.size cap] w fun e w' => e = .returned .nilIface ∧ Below lb w w' ∧ w'.cell? ⟨lb, 0, none⟩ = some (.string s) ∧ w'.frozen? ⟨lb, 0, none⟩ = false := by
  have hcv := conv_any h cap 24 Tryf.underlying24
  have H : Hid (Off s) := ho
  clear h ho
  go_enter Tryf.func6, Tryf.ntmps6
  go_wp2_with (go_at_call 9; refine (check_yes _ _ H.out).mono ?_; rintro e w' ⟨rfl, hw⟩; obtain rfl := hw)
  go_ret
  exact ⟨rfl, (Below.refl _ _).setCell (p := ⟨lb, 0, none⟩) (Nat.le_refl _) _, World.cell?_setCell_same _ _ _ hc, by simpa using hf⟩

theorem unm_no (F : Interp) (lb cap : Nat) (a : Option Addr) (s old : ByteArray) (w : World) (hF : F.answers w.tape) (h : By w a s) (ho : ¬ Off s) (hlt : lb < w.heap.size) (hc : w.cell? ⟨lb, 0, none⟩ = some (.string old)) (hf : w.frozen? ⟨lb, 0, none⟩ = false) :
    Calls Tryf.prog 6 #[.pointer (some ⟨lb, 0, none⟩), .slice a s.size cap] w fun e w' => (∃ x, e = .returned (.iface 35 (.pointer (some x)))) ∧ Below lb w w' ∧ w'.cell? ⟨lb, 0, none⟩ = some (.string old) ∧ w'.frozen? ⟨lb, 0, none⟩ = false := by
  have hcv := conv_any h cap 24 Tryf.underlying24
  have H : Hid (¬ Off s ∧ F.answers w.tape) := ⟨ho, hF⟩
  clear h ho hF
  go_enter Tryf.func6, Tryf.ntmps6
  go_wp2_with fail
  refine (check_no F _ _ H.out.2 H.out.1).mono ?_
  rintro e w' ⟨⟨x, rfl⟩, hb⟩
  have B : Hid (Below w.heap.size w w') := hb
  clear hb hcv
  go_wp2
  go_ret
  exact ⟨⟨x, rfl⟩, B.out.mono (Nat.le_of_lt hlt), by rw [B.out.cell (p := ⟨lb, 0, none⟩) hlt]; exact hc, by rw [B.out.frozen (p := ⟨lb, 0, none⟩) hlt]; exact hf⟩
end Go.Proofs.Qxb6629108aFmt
