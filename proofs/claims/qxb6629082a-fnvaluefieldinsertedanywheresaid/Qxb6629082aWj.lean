import Derived.Test.Qxb6629082aWi
namespace Go.Proofs.Qxb6629082a
open Go.RowKit
set_option linter.unusedVariables false

/-- The world behind the making of the second head's fields: what lay below is as it was; the first head's fields are where they were; k of the new fields are laid. -/
structure Mid (w1 : World) (a2 : Option Addr) (n c2 : Nat) (gs : List Fld) (k : Nat) (wr : World) : Prop where
  below : Below w1.heap.size w1 wr
  cell : wr.cell? ⟨w1.heap.size, 5, none⟩ = some (.slice a2 n c2)
  size : w1.heap.size + 1 < wr.heap.size
  row : ∃ f, wr.rowIs (w1.heap.size + 1) 40 ((n + 1) * 2) f ∧ ∀ j, j < k → f (j * 2) = .slice (gs.getD j Fld.no).na (gs.getD j Fld.no).nm.length (gs.getD j Fld.no).nc ∧ f (j * 2 + 1) = .slice (gs.getD j Fld.no).va (gs.getD j Fld.no).vb.length (gs.getD j Fld.no).vc

theorem mid_start (w1 : World) (o : Obj) (a2 : Option Addr) (n c2 : Nat) (gs : List Fld) (hc : (w1.alloc o).cell? ⟨w1.heap.size, 5, none⟩ = some (.slice a2 n c2)) :
    Mid w1 a2 n c2 gs 0 ((w1.alloc o).alloc (.cells (madeCells #[.slice none 0 0, .slice none 0 0] ((n + 1) * 2)) 40)) := by
  refine ⟨((Below.refl _ _).alloc (Nat.le_refl _) _).alloc (by simp) _, ?_, by simp, ?_⟩
  · rw [World.cell?_alloc_lt _ _ _ (by simp)]; exact hc
  · refine ⟨fun i => (#[.slice none 0 0, .slice none 0 0] : Array Value)[i % 2]!, ?_, fun j hj => absurd hj (Nat.not_lt_zero _)⟩
    have := World.rowIs_alloc (w1.alloc o) (madeCells #[.slice none 0 0, .slice none 0 0] ((n + 1) * 2)) 40 (fun i => (#[.slice none 0 0, .slice none 0 0] : Array Value)[i % 2]!) (fun i hi => by rw [size_madeCells] at hi; simp [madeCells, hi])
    rw [size_madeCells] at this
    simpa using this

/-- One element more: it is laid in a block of its own first. -/
theorem mid_step {w1 wr : World} {a2 : Option Addr} {n c2 : Nat} {gs : List Fld} {k : Nat} (h : Mid w1 a2 n c2 gs k wr) (x : Fld) (hx : gs.getD k Fld.no = x) :
    Mid w1 a2 n c2 gs (k + 1) (((wr.alloc (.cells #[.slice x.na x.nm.length x.nc, .slice x.va x.vb.length x.vc] 40)).setCell ⟨w1.heap.size + 1, k * 2, none⟩ (.slice x.na x.nm.length x.nc)).setCell ⟨w1.heap.size + 1, k * 2 + 1, none⟩ (.slice x.va x.vb.length x.vc)) := by
  obtain ⟨hb, hc, hs, f, hf, hfk⟩ := h
  refine ⟨((hb.alloc (by omega) _).setCell (p := ⟨w1.heap.size + 1, k * 2, none⟩) (by simp) _).setCell (p := ⟨w1.heap.size + 1, k * 2 + 1, none⟩) (by simp) _, ?_, by simp [World.setCell]; omega, ?_⟩
  · have h1 : wr.rowIs (w1.heap.size + 1) 40 ((n + 1) * 2) f := hf
    rw [World.cell?_setCell_other, World.cell?_setCell_other, World.cell?_alloc_lt _ _ _ (by simp; omega)]
    · exact hc
    · simp
    · simp
  · exact row_app (hf.alloc _) gs x hx hfk

/-- The two cells of the next element are there and may be written, behind a new block too. -/
theorem mid_cells {w1 wr : World} {a2 : Option Addr} {n c2 : Nat} {gs : List Fld} {k : Nat} (h : Mid w1 a2 n c2 gs k wr) (hk : k ≤ n) :
    ∃ u0 u1, (∀ o, (wr.alloc o).cell? ⟨w1.heap.size + 1, k * 2, none⟩ = some u0) ∧ (∀ o, (wr.alloc o).cell? ⟨w1.heap.size + 1, k * 2 + 1, none⟩ = some u1) ∧
      (∀ o, (wr.alloc o).frozen? ⟨w1.heap.size + 1, k * 2, none⟩ = false) ∧ (∀ o, (wr.alloc o).frozen? ⟨w1.heap.size + 1, k * 2 + 1, none⟩ = false) := by
  obtain ⟨hb, hc, hs, f, hf, hfk⟩ := h
  exact ⟨f (k * 2), f (k * 2 + 1), fun o => (hf.alloc o).cell (by omega), fun o => (hf.alloc o).cell (by omega), fun o => (hf.alloc o).frozen _, fun o => (hf.alloc o).frozen _⟩
theorem Mid.drew {w1 wr : World} {a2 : Option Addr} {n c2 : Nat} {gs : List Fld} {k : Nat} (h : Mid w1 a2 n c2 gs k wr) : Mid w1 a2 n c2 gs k wr.drew :=
  ⟨h.below.drew, h.cell, h.size, h.row⟩
/-- All laid: the second head's fields. -/
theorem mid_fields {w1 wr : World} {a2 : Option Addr} {n c2 : Nat} {gs : List Fld} (h : Mid w1 a2 n c2 gs (n + 1) wr) (hl : gs.length = n + 1) (hok : ∀ j, j < n + 1 → FldOk wr (gs.getD j Fld.no)) : Fields wr (some ⟨w1.heap.size + 1, 0, none⟩) gs := by
  intro i hi
  obtain ⟨hb, hc, hs, f, hf, hfk⟩ := h
  have h1 := hfk i (by omega)
  refine ⟨w1.heap.size + 1, 0, rfl, hf.lt, ⟨?_, ?_⟩, hok i (by omega)⟩
  · rw [Nat.zero_add, hf.cell (by omega), h1.1]
  · rw [Nat.zero_add, hf.cell (by omega), h1.2]
theorem ins_ok {w : World} {a : Option Addr} {fs : List Fld} {p : Nat} {x : Fld} (h : Fields w a fs) (hx : FldOk w x) (hp : p ≤ fs.length) : ∀ j, j < fs.length + 1 → FldOk w ((insAt fs p x).getD j Fld.no) := by
  intro j hj
  rcases Nat.lt_trichotomy j p with e | e | e
  · rw [insAt_lt x e hp]; obtain ⟨_, _, _, _, _, ok⟩ := h j (by omega); exact ok
  · subst e; rw [insAt_eq x hp]; exact hx
  · obtain ⟨j', rfl⟩ : ∃ j', j = j' + 1 := ⟨j - 1, by omega⟩
    rw [insAt_gt x (by omega) hp]; obtain ⟨_, _, _, _, _, ok⟩ := h j' (by omega); exact ok
end Go.Proofs.Qxb6629082a
