import Derived.Test.Qxb6629158aWd
namespace Go.Proofs.Qxb6629158a
set_option linter.unusedVariables false

/-- Each place holds the greatest zone that it may. -/
def Full (ns : List Nat) (n : Nat) : Prop := ∀ j, j < ns.length → ns.getD j 0 + (ns.length - j) = n
/-- Place k is the last that does not. -/
def Bot (ns : List Nat) (n k : Nat) : Prop := k < ns.length ∧ ns.getD k 0 + (ns.length - k) < n ∧ ∀ j, k < j → j < ns.length → ns.getD j 0 + (ns.length - j) = n

theorem slack {ns : List Nat} (h : Pl.Inc ns) : ∀ d i, i + d < ns.length → ns.getD i 0 + d ≤ ns.getD (i + d) 0 := by
  intro d
  induction d with
  | zero => intro i _; simp
  | succ d ih =>
    intro i hi
    have := ih i (by omega)
    have := h.lt (show i + d < i + (d + 1) by omega) hi
    omega
theorem room {ns : List Nat} {n : Nat} (h : Pl.Inc ns) (hx : ∀ x ∈ ns, x < n) (j : Nat) (hj : j < ns.length) : ns.getD j 0 + (ns.length - j) ≤ n := by
  have h1 := slack h (ns.length - 1 - j) j (by omega)
  have h2 := hx _ (Pl.getD_mem (show j + (ns.length - 1 - j) < ns.length by omega))
  omega
theorem full_or {ns : List Nat} {n : Nat} (h : Pl.Inc ns) (hx : ∀ x ∈ ns, x < n) : Full ns n ∨ ∃ k, Bot ns n k := by
  have : ∀ d, d ≤ ns.length → (∀ j, ns.length - d ≤ j → j < ns.length → ns.getD j 0 + (ns.length - j) = n) ∨ ∃ k, Bot ns n k := by
    intro d
    induction d with
    | zero => intro _; exact .inl fun j h1 h2 => by omega
    | succ d ih =>
      intro hd
      rcases ih (by omega) with h1 | h1
      · have hr := room h hx (ns.length - (d + 1)) (by omega)
        by_cases e : ns.getD (ns.length - (d + 1)) 0 + (ns.length - (ns.length - (d + 1))) = n
        · refine .inl fun j hj1 hj2 => ?_
          by_cases e2 : j = ns.length - (d + 1)
          · rw [e2]; exact e
          · exact h1 j (by omega) hj2
        · exact .inr ⟨ns.length - (d + 1), by omega, by omega, fun j hj1 hj2 => h1 j (by omega) hj2⟩
      · exact .inr h1
  rcases this ns.length (Nat.le_refl _) with h1 | h1
  · exact .inl fun j hj => h1 j (by omega) hj
  · exact .inr h1

theorem mem_rc {ns : List Nat} {n y : Nat} : y ∈ rc ns n ↔ y < n ∧ n - 1 - y ∉ ns := by
  unfold rc refl
  rw [Pl.mem_zones]
  simp [Pl.msk]
theorem rc_inc (ns : List Nat) (n : Nat) : Pl.Inc (rc ns n) := Pl.zones_inc _ _
theorem rc_lt (ns : List Nat) (n : Nat) : ∀ x ∈ rc ns n, x < n := fun x hx => (mem_rc.1 hx).1
theorem rc_length (ns : List Nat) (n : Nat) : (rc ns n).length ≤ n := Pl.zones_length_le _ _

/-- What a list is that has no next in the order of the masks. -/
def Off (l : List Nat) (n : Nat) : Prop := l.length = 0 ∨ ∃ k, Pl.Top l k ∧ l.getD k 0 + 1 = n

/-- Where each place is full, the reflected complement has no next. -/
theorem off_rc {ns : List Nat} {n : Nat} (h : Full ns n) (hx : ∀ x ∈ ns, x < n) (hw : ns.length ≤ n) : Off (rc ns n) n := by
  by_cases h0 : 0 < (rc ns n).length
  · obtain ⟨k, hk⟩ := Pl.top_ex h0
    refine .inr ⟨k, hk, ?_⟩
    have hm := Pl.getD_mem hk.1
    obtain ⟨h1, h2⟩ := mem_rc.1 hm
    refine Decidable.byContradiction fun hne => ?_
    have hr := hk.run k (Nat.le_refl _)
    refine (hk.mem (rc_inc _ _) ((rc ns n).getD k 0 + 1)).2.2 (by omega) (mem_rc.2 ⟨by omega, fun hin => ?_⟩)
    obtain ⟨j, hj, e⟩ := Pl.mem_iff.1 hin
    have hf := h j hj
    refine h2 (Pl.mem_iff.2 ⟨j + 1, ?_, ?_⟩)
    · omega
    · have := h (j + 1) (by omega); omega
  · exact .inl (by omega)

/-- The next list in the order of the zones, its places from k on raised up to s. -/
def bmp (ns : List Nat) (k s : Nat) : List Nat := (List.range ns.length).map fun j => if j < k then ns.getD j 0 else if j < s then ns.getD k 0 + 1 + (j - k) else ns.getD j 0
theorem bmp_length (ns : List Nat) (k s : Nat) : (bmp ns k s).length = ns.length := by simp [bmp]
theorem bmp_get (ns : List Nat) (k s j : Nat) (hj : j < ns.length) : (bmp ns k s).getD j 0 = if j < k then ns.getD j 0 else if j < s then ns.getD k 0 + 1 + (j - k) else ns.getD j 0 := by
  simp [bmp, List.getD_eq_getElem?_getD, hj]
theorem bmp_inc {ns : List Nat} (k : Nat) (h : Pl.Inc ns) : Pl.Inc (bmp ns k ns.length) := by
  refine Pl.inc_of fun i hi => ?_
  rw [bmp_length] at hi
  rw [bmp_get ns k _ i (by omega), bmp_get ns k _ (i + 1) hi]
  by_cases c1 : i + 1 < k
  · rw [if_pos (by omega), if_pos c1]; exact h.lt (by omega) hi
  · by_cases c2 : i + 1 = k
    · rw [if_pos (by omega), if_neg (by omega), if_pos hi]
      have := h.lt (show i < i + 1 by omega) hi
      rw [c2] at this
      omega
    · rw [if_neg (show ¬ i < k by omega), if_pos (show i < ns.length by omega), if_neg c1, if_pos hi]; omega
theorem mem_bmp {ns : List Nat} {k : Nat} (h : Pl.Inc ns) (hk : k < ns.length) (y : Nat) :
    y ∈ bmp ns k ns.length ↔ (y ∈ ns ∧ y < ns.getD k 0) ∨ (ns.getD k 0 + 1 ≤ y ∧ y + k ≤ ns.getD k 0 + ns.length) := by
  constructor
  · intro hm
    obtain ⟨i, hi, e⟩ := Pl.mem_iff.1 hm
    rw [bmp_length] at hi
    rw [bmp_get ns k _ i hi] at e
    by_cases c : i < k
    · rw [if_pos c] at e
      exact .inl ⟨Pl.mem_iff.2 ⟨i, hi, e⟩, by rw [← e]; exact h.lt c hk⟩
    · rw [if_neg c, if_pos hi] at e
      exact .inr ⟨by omega, by omega⟩
  · rintro (⟨h1, h2⟩ | ⟨h1, h2⟩)
    · obtain ⟨i, hi, e⟩ := Pl.mem_iff.1 h1
      have hik : i < k := by
        rcases Nat.lt_trichotomy i k with c | c | c
        · exact c
        · subst c; omega
        · have := h.lt c hi; omega
      exact Pl.mem_iff.2 ⟨i, by rw [bmp_length]; exact hi, by rw [bmp_get ns k _ i hi, if_pos hik]; exact e⟩
    · refine Pl.mem_iff.2 ⟨k + (y - (ns.getD k 0 + 1)), by rw [bmp_length]; omega, ?_⟩
      rw [bmp_get ns k _ _ (by omega), if_neg (by omega), if_pos (by omega)]; omega
theorem bmp_lt {ns : List Nat} {n k : Nat} (h : Pl.Inc ns) (hx : ∀ x ∈ ns, x < n) (hb : Bot ns n k) : ∀ x ∈ bmp ns k ns.length, x < n := by
  intro x hm
  rcases (mem_bmp h hb.1 x).1 hm with ⟨h1, _⟩ | ⟨h1, h2⟩
  · exact hx x h1
  · have := hb.2.1; have := hb.1; omega

/-- Where place k is the last that may rise: the reflected complement has a next in the order of the masks, and it is the reflected complement of the next list. -/
theorem bot_rc {ns : List Nat} {n k : Nat} (h : Pl.Inc ns) (hx : ∀ x ∈ ns, x < n) (hb : Bot ns n k) :
    ∃ kc, Pl.Top (rc ns n) kc ∧ (rc ns n).getD kc 0 + 1 < n ∧ rc (Pl.nxt (rc ns n) kc) n = bmp ns k ns.length := by
  obtain ⟨hk, hroom, htail⟩ := hb
  have hz := hx _ (Pl.getD_mem hk)
  have hzm : ns.getD k 0 ∈ ns := Pl.getD_mem hk
  have hi := rc_inc ns n
  -- what lies above z
  have habove : ∀ x, ns.getD k 0 < x → (x ∈ ns ↔ n < x + (ns.length - k) ∧ x < n) := by
    intro x hzx
    constructor
    · intro hm
      obtain ⟨i, hi1, e⟩ := Pl.mem_iff.1 hm
      have hki : k < i := by
        rcases Nat.lt_trichotomy k i with c | c | c
        · exact c
        · subst c; omega
        · have := h.lt c hk; omega
      have := htail i hki hi1
      exact ⟨by omega, by omega⟩
    · rintro ⟨h1, h2⟩
      have := htail (x + ns.length - n) (by omega) (by omega)
      exact Pl.mem_iff.2 ⟨x + ns.length - n, by omega, by omega⟩
  have hT : ns.length - 1 - k ∈ rc ns n := mem_rc.2 ⟨by omega, fun hm => by have := (habove _ (by omega)).1 hm; omega⟩
  have h0 : 0 < (rc ns n).length := List.length_pos_of_mem hT
  obtain ⟨kc, hkc⟩ := Pl.top_ex h0
  have hmem := hkc.mem hi
  have hrun := hkc.run kc (Nat.le_refl _)
  have hC0 : (rc ns n).getD 0 0 = ns.length - 1 - k := by
    have h1 : ¬ ns.length - 1 - k < (rc ns n).getD 0 0 := fun c => (hmem _).1 c hT
    obtain ⟨h2, h3⟩ := mem_rc.1 (Pl.getD_mem h0)
    have h4 : ¬ (rc ns n).getD 0 0 < ns.length - 1 - k := fun c => h3 ((habove _ (by omega)).2 ⟨by omega, by omega⟩)
    omega
  have hnz : n - 1 - ns.getD k 0 ∉ rc ns n := fun hm => (mem_rc.1 hm).2 (by rw [show n - 1 - (n - 1 - ns.getD k 0) = ns.getD k 0 by omega]; exact hzm)
  have hp : ns.length - 1 - k + kc + 1 = n - 1 - ns.getD k 0 := by
    have h1 : ¬ ns.length - 1 - k + kc + 1 < n - 1 - ns.getD k 0 := fun c => (hmem _).2.2 rfl (mem_rc.2 ⟨by omega, fun hm => by have := (habove _ (by omega)).1 hm; omega⟩)
    have h2 : ¬ n - 1 - ns.getD k 0 < ns.length - 1 - k + kc + 1 := fun c => hnz ((hmem _).2.1 (by omega) (by omega))
    omega
  refine ⟨kc, hkc, by omega, Pl.inc_ext (rc_inc _ _) (bmp_inc k h) fun y => ?_⟩
  rw [mem_rc, mem_bmp h hk, Pl.mem_nxt hkc hi, hC0, hp]
  rw [mem_rc]
  constructor
  · rintro ⟨hy, hno⟩
    have n1 : ¬ n - 1 - y < kc := fun c => hno (.inl c)
    have n2 : ¬ n - 1 - y = n - 1 - ns.getD k 0 := fun c => hno (.inr (.inl c))
    by_cases c : y < ns.getD k 0
    · refine .inl ⟨Decidable.byContradiction fun hn2 => hno (.inr (.inr ⟨⟨by omega, ?_⟩, by omega⟩)), c⟩
      rw [show n - 1 - (n - 1 - y) = y by omega]; exact hn2
    · exact .inr ⟨by omega, by omega⟩
  · rintro (⟨h1, h2⟩ | ⟨h1, h2⟩)
    · refine ⟨by omega, ?_⟩
      rintro (c | c | ⟨⟨_, c⟩, _⟩)
      · omega
      · omega
      · rw [show n - 1 - (n - 1 - y) = y by omega] at c; exact c h1
    · refine ⟨by omega, ?_⟩
      rintro (c | c | ⟨_, c⟩) <;> omega

theorem bmp_diff {ns : List Nat} {k : Nat} (hk : k < ns.length) : (∀ j, j < k → ns.getD j 0 = (bmp ns k ns.length).getD j 0) ∧ ns.getD k 0 ≠ (bmp ns k ns.length).getD k 0 := by
  refine ⟨fun j hj => ?_, ?_⟩
  · rw [bmp_get ns k _ j (by omega), if_pos hj]
  · rw [bmp_get ns k _ k hk, if_neg (by omega), if_pos hk]; omega
end Go.Proofs.Qxb6629158a
