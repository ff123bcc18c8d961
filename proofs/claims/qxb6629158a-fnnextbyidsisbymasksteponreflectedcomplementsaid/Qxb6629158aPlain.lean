/-
  THE PLAIN LAWS: strictly increasing lists of numbers and their masks; no Go in sight.
-/
namespace Go.Proofs.Qxb6629158a
namespace Pl

/-- Strictly increasing. -/
def Inc (l : List Nat) : Prop := l.Pairwise (· < ·)

theorem Inc.lt {l : List Nat} (h : Inc l) {i j : Nat} (hij : i < j) (hj : j < l.length) : l.getD i 0 < l.getD j 0 := by
  have hi : i < l.length := by omega
  have := List.pairwise_iff_getElem.1 h i j hi hj hij
  simpa [List.getD_eq_getElem?_getD, hi, hj] using this
theorem inc_of {l : List Nat} (h : ∀ i, i + 1 < l.length → l.getD i 0 < l.getD (i + 1) 0) : Inc l := by
  have key : ∀ j i, i < j → j < l.length → l.getD i 0 < l.getD j 0 := by
    intro j
    induction j with
    | zero => intro i hi; omega
    | succ j ih =>
      intro i hi hj
      have h1 := h j hj
      by_cases e : i = j
      · subst e; exact h1
      · have := ih i (by omega) (by omega); omega
  refine List.pairwise_iff_getElem.2 fun i j hi hj hij => ?_
  have := key j i hij hj
  simpa [List.getD_eq_getElem?_getD, hi, hj] using this
theorem mem_iff {l : List Nat} {x : Nat} : x ∈ l ↔ ∃ i, i < l.length ∧ l.getD i 0 = x := by
  constructor
  · intro h
    obtain ⟨i, hi, e⟩ := List.mem_iff_getElem.1 h
    exact ⟨i, hi, by simpa [List.getD_eq_getElem?_getD, hi] using e⟩
  · rintro ⟨i, hi, e⟩
    exact List.mem_iff_getElem.2 ⟨i, hi, by simpa [List.getD_eq_getElem?_getD, hi] using e⟩
theorem getD_mem {l : List Nat} {i : Nat} (h : i < l.length) : l.getD i 0 ∈ l := mem_iff.2 ⟨i, h, rfl⟩

/-- Two strictly increasing lists with the same members are one. -/
theorem inc_ext : ∀ {a b : List Nat}, Inc a → Inc b → (∀ x, x ∈ a ↔ x ∈ b) → a = b
  | [], [], _, _, _ => rfl
  | [], y :: b, _, _, h => by have := (h y).2 (by simp); simp at this
  | x :: a, [], _, _, h => by have := (h x).1 (by simp); simp at this
  | x :: a, y :: b, ha, hb, h => by
    obtain ⟨ha1, ha2⟩ := List.pairwise_cons.1 ha
    obtain ⟨hb1, hb2⟩ := List.pairwise_cons.1 hb
    have hx : x = y := by
      have h1 := (h x).1 (by simp)
      have h2 := (h y).2 (by simp)
      simp at h1 h2
      rcases h1 with h1 | h1
      · exact h1
      · rcases h2 with h2 | h2
        · exact h2.symm
        · have := ha1 y h2; have := hb1 x h1; omega
    subst hx
    have : a = b := inc_ext ha2 hb2 fun z => by
      have hz := h z
      simp at hz
      constructor
      · intro hm
        have := ha1 z hm
        rcases hz.1 (.inr hm) with e | e
        · omega
        · exact e
      · intro hm
        have := hb1 z hm
        rcases hz.2 (.inr hm) with e | e
        · omega
        · exact e
    rw [this]

/-- The members below n that a mask tells. -/
def zones (g : Nat → Bool) (n : Nat) : List Nat := (List.range n).filter g
theorem zones_inc (g : Nat → Bool) (n : Nat) : Inc (zones g n) := List.pairwise_lt_range.filter _
theorem mem_zones {g : Nat → Bool} {n x : Nat} : x ∈ zones g n ↔ x < n ∧ g x = true := by simp [zones]
theorem zones_succ (g : Nat → Bool) (z : Nat) : zones g (z + 1) = zones g z ++ if g z then [z] else [] := by
  unfold zones
  rw [List.range_succ, List.filter_append]
  cases h : g z <;> simp [h]
theorem zones_length_le (g : Nat → Bool) (n : Nat) : (zones g n).length ≤ n := by
  have := List.length_filter_le g (List.range n); simpa [zones] using this

/-- The top of the lowest run lies at place k. -/
def Top (l : List Nat) (k : Nat) : Prop := k < l.length ∧ (∀ j, j < k → l.getD j 0 + 1 = l.getD (j + 1) 0) ∧ (k + 1 < l.length → l.getD k 0 + 1 ≠ l.getD (k + 1) 0)
theorem top_ex {l : List Nat} (h : 0 < l.length) : ∃ k, Top l k := by
  have : ∀ n, n < l.length → (∀ j, j < n → l.getD j 0 + 1 = l.getD (j + 1) 0) ∨ ∃ k, Top l k := by
    intro n
    induction n with
    | zero => intro _; exact .inl fun j hj => absurd hj (Nat.not_lt_zero _)
    | succ n ih =>
      intro hn
      rcases ih (by omega) with h1 | h1
      · by_cases e : l.getD n 0 + 1 = l.getD (n + 1) 0
        · refine .inl fun j hj => ?_
          by_cases e2 : j = n
          · subst e2; exact e
          · exact h1 j (by omega)
        · exact .inr ⟨n, by omega, h1, fun _ => e⟩
      · exact .inr h1
  rcases this (l.length - 1) (by omega) with h1 | h1
  · exact ⟨l.length - 1, by omega, h1, fun h => by omega⟩
  · exact h1
theorem Top.run {l : List Nat} {k : Nat} (h : Top l k) : ∀ j, j ≤ k → l.getD j 0 = l.getD 0 0 + j := by
  intro j
  induction j with
  | zero => intro _; omega
  | succ j ih => intro hj; have := ih (by omega); have := h.2.1 j (by omega); omega
/-- What is a member, by the run: the lowest is l[0]; the run up to l[0] + k; the next number is none; the others lie behind. -/
theorem Top.mem {l : List Nat} {k : Nat} (h : Top l k) (hi : Inc l) (x : Nat) :
    (x < l.getD 0 0 → x ∉ l) ∧ (l.getD 0 0 ≤ x → x ≤ l.getD 0 0 + k → x ∈ l) ∧ (x = l.getD 0 0 + k + 1 → x ∉ l) := by
  have hr := h.run
  obtain ⟨hk, h1, h2⟩ := h
  refine ⟨fun hx hm => ?_, fun hx1 hx2 => ?_, fun hx hm => ?_⟩
  · obtain ⟨i, hi1, e⟩ := mem_iff.1 hm
    by_cases e0 : i = 0
    · subst e0; omega
    · have := hi.lt (show 0 < i by omega) hi1; omega
  · have := hr (x - l.getD 0 0) (by omega)
    exact mem_iff.2 ⟨x - l.getD 0 0, by omega, by omega⟩
  · obtain ⟨i, hi1, e⟩ := mem_iff.1 hm
    have hkk := hr k (Nat.le_refl _)
    rcases Nat.lt_trichotomy i (k + 1) with c | c | c
    · have := hr i (by omega); omega
    · subst c; exact h2 hi1 (by omega)
    · have := h2 (by omega)
      have := hi.lt (show k < k + 1 by omega) (by omega)
      have := hi.lt c hi1
      omega

/-- The next list in the order of the masks. -/
def nxt (l : List Nat) (k : Nat) : List Nat := (List.range l.length).map fun j => if j < k then j else if j = k then l.getD k 0 + 1 else l.getD j 0
theorem nxt_length (l : List Nat) (k : Nat) : (nxt l k).length = l.length := by simp [nxt]
theorem nxt_get (l : List Nat) (k j : Nat) (hj : j < l.length) : (nxt l k).getD j 0 = if j < k then j else if j = k then l.getD k 0 + 1 else l.getD j 0 := by
  simp [nxt, List.getD_eq_getElem?_getD, hj]
theorem nxt_inc {l : List Nat} {k : Nat} (h : Top l k) (hi : Inc l) : Inc (nxt l k) := by
  refine inc_of fun i hi1 => ?_
  rw [nxt_length] at hi1
  rw [nxt_get l k i (by omega), nxt_get l k (i + 1) hi1]
  have hr := h.run
  have := hr k (Nat.le_refl _)
  by_cases c1 : i + 1 < k
  · rw [if_pos (by omega), if_pos c1]; omega
  · by_cases c2 : i + 1 = k
    · rw [if_pos (by omega), if_neg (by omega), if_pos c2]; omega
    · by_cases c3 : i = k
      · subst c3
        rw [if_neg (by omega), if_pos rfl, if_neg (by omega), if_neg (by omega)]
        have := h.2.2 hi1
        have := hi.lt (show i < i + 1 by omega) hi1
        omega
      · rw [if_neg (by omega), if_neg (by omega), if_neg (by omega), if_neg (by omega)]
        exact hi.lt (by omega) hi1
theorem mem_nxt {l : List Nat} {k : Nat} (h : Top l k) (hi : Inc l) (x : Nat) :
    x ∈ nxt l k ↔ x < k ∨ x = l.getD 0 0 + k + 1 ∨ (x ∈ l ∧ l.getD 0 0 + k + 1 < x) := by
  have hr := h.run
  have hk := h.1
  have hkk := hr k (Nat.le_refl _)
  constructor
  · intro hm
    obtain ⟨i, hi1, e⟩ := mem_iff.1 hm
    rw [nxt_length] at hi1
    rw [nxt_get l k i hi1] at e
    by_cases c1 : i < k
    · rw [if_pos c1] at e; exact .inl (by omega)
    · by_cases c2 : i = k
      · rw [if_neg c1, if_pos c2] at e; exact .inr (.inl (by omega))
      · rw [if_neg c1, if_neg c2] at e
        refine .inr (.inr ⟨mem_iff.2 ⟨i, hi1, e⟩, ?_⟩)
        have h2 := h.2.2 (by omega)
        have h3 := hi.lt (show k < k + 1 by omega) (by omega)
        by_cases c3 : i = k + 1
        · subst c3; omega
        · have := hi.lt (show k + 1 < i by omega) hi1; omega
  · rintro (h1 | h1 | ⟨h1, h2⟩)
    · exact mem_iff.2 ⟨x, by rw [nxt_length]; omega, by rw [nxt_get l k x (by omega), if_pos h1]⟩
    · exact mem_iff.2 ⟨k, by rw [nxt_length]; omega, by rw [nxt_get l k k hk, if_neg (by omega), if_pos rfl]; omega⟩
    · obtain ⟨i, hi1, e⟩ := mem_iff.1 h1
      have hik : k < i := by
        rcases Nat.lt_or_ge k i with c | c
        · exact c
        · have := hr i c; omega
      exact mem_iff.2 ⟨i, by rw [nxt_length]; omega, by rw [nxt_get l k i hi1, if_neg (by omega), if_neg (by omega)]; exact e⟩

/-! ### Masks -/
/-- The mask of a list. -/
def msk (l : List Nat) (i : Nat) : Bool := decide (i ∈ l)
/-- The carry into place i. -/
def car (a b : Nat → Bool) : Nat → Bool
  | 0 => false
  | i + 1 => (a i && b i) || (car a b i && (a i != b i))
/-- The sum's bit at place i. -/
def sm (a b : Nat → Bool) (i : Nat) : Bool := (a i != b i) != car a b i
def one (t : Nat) (i : Nat) : Bool := decide (i = t)
/-- Adding the lowest bit of a run: the run falls, the place behind it rises. -/
theorem car_run {v : Nat → Bool} {t r : Nat} (h0 : ∀ i, i < t → v i = false) (h1 : ∀ i, t ≤ i → i < t + r → v i = true) (h2 : v (t + r) = false) (hr : 1 ≤ r) :
    ∀ i, car v (one t) i = (decide (t < i) && decide (i ≤ t + r)) := by
  intro i
  induction i with
  | zero => simp [car]
  | succ i ih =>
    rw [car, ih]
    unfold one
    rcases Nat.lt_trichotomy i t with c | c | c
    · rw [h0 i c, decide_eq_false (show ¬ i = t by omega), decide_eq_false (show ¬ t < i by omega), decide_eq_false (show ¬ t < i + 1 by omega)]; simp
    · subst c
      rw [h1 i (Nat.le_refl _) (by omega), decide_eq_true rfl, decide_eq_true (show i < i + 1 by omega), decide_eq_true (show i + 1 ≤ i + r by omega)]; simp
    · rw [decide_eq_false (show ¬ i = t by omega), decide_eq_true c, decide_eq_true (show t < i + 1 by omega)]
      by_cases c2 : i < t + r
      · rw [h1 i (by omega) c2, decide_eq_true (show i ≤ t + r by omega), decide_eq_true (show i + 1 ≤ t + r by omega)]; simp
      · by_cases c3 : i = t + r
        · subst c3; rw [h2, decide_eq_false (show ¬ t + r + 1 ≤ t + r by omega)]; simp
        · rw [decide_eq_false (show ¬ i ≤ t + r by omega), decide_eq_false (show ¬ i + 1 ≤ t + r by omega)]; simp
theorem sm_run {v : Nat → Bool} {t r : Nat} (h0 : ∀ i, i < t → v i = false) (h1 : ∀ i, t ≤ i → i < t + r → v i = true) (h2 : v (t + r) = false) (hr : 1 ≤ r) (i : Nat) :
    sm v (one t) i = (decide (i = t + r) || (decide (t + r < i) && v i)) := by
  unfold sm
  rw [car_run h0 h1 h2 hr i]
  unfold one
  rcases Nat.lt_trichotomy i t with c | c | c
  · rw [h0 i c, decide_eq_false (show ¬ i = t by omega), decide_eq_false (show ¬ t < i by omega), decide_eq_false (show ¬ i = t + r by omega)]; simp
  · subst c
    rw [h1 i (Nat.le_refl _) (by omega), decide_eq_true rfl, decide_eq_false (show ¬ i < i by omega), decide_eq_false (show ¬ i = i + r by omega), decide_eq_false (show ¬ i + r < i by omega)]; simp
  · rw [decide_eq_false (show ¬ i = t by omega), decide_eq_true c]
    by_cases c2 : i < t + r
    · rw [h1 i (by omega) c2, decide_eq_true (show i ≤ t + r by omega), decide_eq_false (show ¬ i = t + r by omega), decide_eq_false (show ¬ t + r < i by omega)]; simp
    · by_cases c3 : i = t + r
      · subst c3; rw [h2, decide_eq_true (show t + r ≤ t + r by omega), decide_eq_true rfl]; simp
      · rw [decide_eq_false (show ¬ i ≤ t + r by omega), decide_eq_false c3, decide_eq_true (show t + r < i by omega)]; simp
/-- Gosper's next: the sum, and the run's other bits at the bottom. -/
def gos (v : Nat → Bool) (t L : Nat) (i : Nat) : Bool := sm v (one t) i || (decide (i + (t + 2) < L) && (v (i + (t + 2)) != sm v (one t) (i + (t + 2))))
theorem gos_run {v : Nat → Bool} {t r n : Nat} (h0 : ∀ i, i < t → v i = false) (h1 : ∀ i, t ≤ i → i < t + r → v i = true) (h2 : v (t + r) = false) (hr : 1 ≤ r) (hn : t + r < n) (i : Nat) :
    gos v t (n + 1) i = (decide (i + 1 < r) || decide (i = t + r) || (decide (t + r < i) && v i)) := by
  unfold gos
  rw [sm_run h0 h1 h2 hr i, sm_run h0 h1 h2 hr (i + (t + 2))]
  have key : (decide (i + (t + 2) < n + 1) && (v (i + (t + 2)) != (decide (i + (t + 2) = t + r) || (decide (t + r < i + (t + 2)) && v (i + (t + 2)))))) = decide (i + 1 < r) := by
    by_cases c : i + 2 < r
    · rw [h1 (i + (t + 2)) (by omega) (by omega), decide_eq_true (show i + (t + 2) < n + 1 by omega), decide_eq_false (show ¬ i + (t + 2) = t + r by omega), decide_eq_false (show ¬ t + r < i + (t + 2) by omega), decide_eq_true (show i + 1 < r by omega)]; simp
    · by_cases c2 : i + 2 = r
      · rw [show i + (t + 2) = t + r by omega, h2, decide_eq_true (show t + r < n + 1 by omega), decide_eq_true rfl, decide_eq_true (show i + 1 < r by omega)]; simp
      · rw [decide_eq_false (show ¬ i + (t + 2) = t + r by omega), decide_eq_true (show t + r < i + (t + 2) by omega), decide_eq_false (show ¬ i + 1 < r by omega)]; simp
  rw [key]
  cases decide (i + 1 < r) <;> cases decide (i = t + r) <;> cases (decide (t + r < i) && v i) <;> rfl

/-- Gosper's next is the next list. -/
theorem gos_zones {l : List Nat} {k n : Nat} (h : Top l k) (hi : Inc l) (hl : ∀ x ∈ l, x < n) (hn : l.getD 0 0 + k + 1 < n) : zones (gos (msk l) (l.getD 0 0) (n + 1)) n = nxt l k := by
  refine inc_ext (zones_inc _ _) (nxt_inc h hi) fun x => ?_
  have hm := h.mem hi
  rw [mem_zones, mem_nxt h hi, gos_run (v := msk l) (r := k + 1) (fun i c => decide_eq_false ((hm i).1 c)) (fun i c1 c2 => decide_eq_true ((hm i).2.1 c1 (by omega))) (decide_eq_false ((hm _).2.2 rfl)) (by omega) (by omega)]
  have hk : k < n := by omega
  simp only [Bool.or_eq_true, Bool.and_eq_true, decide_eq_true_eq, msk]
  constructor
  · rintro ⟨_, (h1 | h1) | ⟨h1, h2⟩⟩
    · exact .inl (by omega)
    · exact .inr (.inl (by omega))
    · exact .inr (.inr ⟨h2, by omega⟩)
  · rintro (h1 | h1 | ⟨h1, h2⟩)
    · exact ⟨by omega, .inl (.inl (by omega))⟩
    · exact ⟨by omega, .inl (.inr (by omega))⟩
    · exact ⟨hl x h1, .inr ⟨by omega, h1⟩⟩
end Pl
end Go.Proofs.Qxb6629158a
