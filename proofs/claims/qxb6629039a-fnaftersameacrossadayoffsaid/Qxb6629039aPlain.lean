/-
  THE PLAIN LAWS: lists of integers, no Go in sight.
-/
namespace Go.Proofs.Qxb6629039a
namespace Pl

/-- How many of the list lie strictly after d. -/
def cntGt (zs : List Int) (d : Int) : Nat := zs.countP (fun x => decide (d < x))
/-- How many of the list lie in (lo, hi]. -/
def cntBt (zs : List Int) (lo hi : Int) : Nat := zs.countP (fun x => decide (lo < x) && decide (x ≤ hi))
/-- Strictly increasing, by neighbours. -/
def Inc (zs : List Int) : Prop := ∀ i, i + 1 < zs.length → zs.getD i 0 < zs.getD (i + 1) 0

theorem take_snoc (zs : List Int) (k : Nat) (h : k < zs.length) : zs.take (k + 1) = zs.take k ++ [zs.getD k 0] := by
  rw [List.take_succ_eq_append_getElem h]; simp [List.getD_eq_getElem?_getD, h]

theorem cntGt_snoc (l : List Int) (x d : Int) : cntGt (l ++ [x]) d = cntGt l d + if d < x then 1 else 0 := by
  unfold cntGt; rw [List.countP_append]; simp [List.countP_cons]
theorem cntBt_snoc (l : List Int) (x lo hi : Int) : cntBt (l ++ [x]) lo hi = cntBt l lo hi + if lo < x ∧ x ≤ hi then 1 else 0 := by
  unfold cntBt; rw [List.countP_append]; simp [List.countP_cons]
theorem cntGt_take (zs : List Int) (k : Nat) (d : Int) (h : k < zs.length) : cntGt (zs.take (k + 1)) d = cntGt (zs.take k) d + if d < zs.getD k 0 then 1 else 0 := by
  rw [take_snoc zs k h, cntGt_snoc]
theorem cntBt_take (zs : List Int) (k : Nat) (lo hi : Int) (h : k < zs.length) : cntBt (zs.take (k + 1)) lo hi = cntBt (zs.take k) lo hi + if lo < zs.getD k 0 ∧ zs.getD k 0 ≤ hi then 1 else 0 := by
  rw [take_snoc zs k h, cntBt_snoc]
theorem cntGt_le (zs : List Int) (k : Nat) (d : Int) : cntGt (zs.take k) d ≤ k := by
  unfold cntGt; have := List.countP_le_length (p := fun x => decide (d < x)) (l := zs.take k); have := List.length_take_le k zs; omega
theorem cntBt_le (zs : List Int) (k : Nat) (lo hi : Int) : cntBt (zs.take k) lo hi ≤ k := by
  unfold cntBt; have := List.countP_le_length (p := fun x => decide (lo < x) && decide (x ≤ hi)) (l := zs.take k); have := List.length_take_le k zs; omega

/-- Strictly increasing, by any two places. -/
theorem Inc.lt {zs : List Int} (h : Inc zs) : ∀ j i, i < j → j < zs.length → zs.getD i 0 < zs.getD j 0 := by
  intro j
  induction j with
  | zero => intro i hi; omega
  | succ j ih =>
    intro i hi hj
    have h1 := h j hj
    by_cases e : i = j
    · subst e; exact h1
    · have := ih i (by omega) (by omega); omega
theorem Inc.le {zs : List Int} (h : Inc zs) (i j : Nat) (hij : i ≤ j) (hj : j < zs.length) : zs.getD i 0 ≤ zs.getD j 0 := by
  by_cases e : i = j
  · subst e; exact Int.le_refl _
  · have := h.lt j i (by omega) hj; omega

/-- p parts the list: what lies ahead of p is less than x, what lies from p on is not. -/
def PartsLt (zs : List Int) (x : Int) (p : Nat) : Prop := p ≤ zs.length ∧ (∀ t, t < p → zs.getD t 0 < x) ∧ (∀ t, p ≤ t → t < zs.length → x ≤ zs.getD t 0)
/-- q parts the list: what lies ahead of q is at most x, what lies from q on is greater. -/
def PartsLe (zs : List Int) (x : Int) (q : Nat) : Prop := q ≤ zs.length ∧ (∀ t, t < q → zs.getD t 0 ≤ x) ∧ (∀ t, q ≤ t → t < zs.length → x < zs.getD t 0)

theorem parts_le_ex {zs : List Int} (h : Inc zs) (x : Int) : ∃ q, PartsLe zs x q := by
  have : ∀ n, n ≤ zs.length → ∃ q, q ≤ n ∧ (∀ t, t < q → zs.getD t 0 ≤ x) ∧ (∀ t, q ≤ t → t < n → x < zs.getD t 0) := by
    intro n
    induction n with
    | zero => intro _; exact ⟨0, Nat.le_refl _, fun t ht => by omega, fun t _ ht => by omega⟩
    | succ n ih =>
      intro hn
      obtain ⟨q, h1, h2, h3⟩ := ih (by omega)
      by_cases hx : zs.getD n 0 ≤ x
      · refine ⟨n + 1, Nat.le_refl _, fun t ht => ?_, fun t h1 h2 => by omega⟩
        have := h.le t n (by omega) (by omega); omega
      · refine ⟨q, by omega, h2, fun t ht1 ht2 => ?_⟩
        by_cases e : t = n
        · subst e; omega
        · exact h3 t ht1 (by omega)
  obtain ⟨q, h1, h2, h3⟩ := this zs.length (Nat.le_refl _)
  exact ⟨q, h1, h2, h3⟩
/-- Where 'at most' parts, 'less' parts too: one place earlier where x is among the list. -/
theorem parts_lt_of {zs : List Int} (h : Inc zs) (x : Int) (q : Nat) (hq : PartsLe zs x q) :
    (PartsLt zs x q ∧ ¬ (q < zs.length ∧ zs.getD q 0 = x)) ∨ (∃ p, q = p + 1 ∧ PartsLt zs x p ∧ p < zs.length ∧ zs.getD p 0 = x) := by
  obtain ⟨h1, h2, h3⟩ := hq
  by_cases e : ∃ p, q = p + 1 ∧ zs.getD p 0 = x
  · obtain ⟨p, rfl, hp⟩ := e
    refine .inr ⟨p, rfl, ⟨by omega, fun t ht => ?_, fun t ht1 ht2 => ?_⟩, by omega, hp⟩
    · have := h.lt p t ht (by omega); omega
    · by_cases e : t = p
      · subst e; omega
      · have := h3 t (by omega) ht2; omega
  · refine .inl ⟨⟨h1, fun t ht => ?_, fun t ht1 ht2 => by have := h3 t ht1 ht2; omega⟩, fun ⟨a, b⟩ => by have := h3 q (Nat.le_refl _) a; omega⟩
    by_cases e2 : t + 1 = q
    · have := h2 t ht
      have : zs.getD t 0 ≠ x := fun hx => e ⟨t, e2.symm, hx⟩
      omega
    · have := h2 (q - 1) (by omega)
      have := h.lt (q - 1) t (by omega) (by omega)
      omega

theorem cntGt_parts {zs : List Int} {d : Int} {q : Nat} (hq : PartsLe zs d q) : cntGt zs d = zs.length - q := by
  have : ∀ k, k ≤ zs.length → cntGt (zs.take k) d = k - q := by
    intro k
    induction k with
    | zero => intro _; simp [cntGt]
    | succ k ih =>
      intro hk
      rw [cntGt_take zs k d (by omega), ih (by omega)]
      by_cases e : k < q
      · rw [if_neg (by have := hq.2.1 k e; omega)]; omega
      · rw [if_pos (hq.2.2 k (by omega) (by omega))]; omega
  have h := this zs.length (Nat.le_refl _)
  rwa [List.take_of_length_le (Nat.le_refl _)] at h
theorem cntBt_parts {zs : List Int} {lo hi : Int} {q r : Nat} (hq : PartsLe zs lo q) (hr : PartsLe zs hi r) : cntBt zs lo hi = r - q := by
  have : ∀ k, k ≤ zs.length → cntBt (zs.take k) lo hi = min k r - q := by
    intro k
    induction k with
    | zero => intro _; simp [cntBt]
    | succ k ih =>
      intro hk
      rw [cntBt_take zs k lo hi (by omega), ih (by omega)]
      by_cases e : k < q
      · rw [if_neg (by have := hq.2.1 k e; omega)]; omega
      · have h1 := hq.2.2 k (by omega) (by omega)
        by_cases e2 : k < r
        · rw [if_pos ⟨h1, hr.2.1 k e2⟩]; omega
        · rw [if_neg (by have := hr.2.2 k (by omega) (by omega); omega)]; omega
  have h := this zs.length (Nat.le_refl _)
  rw [List.take_of_length_le (Nat.le_refl _)] at h
  have := hr.1
  omega
theorem parts_at {zs : List Int} (h : Inc zs) (i : Nat) (hi : i < zs.length) : PartsLe zs (zs.getD i 0) (i + 1) :=
  ⟨by omega, fun t ht => h.le t i (by omega) hi, fun t ht1 ht2 => h.lt t i (by omega) ht2⟩
theorem parts_unique {zs : List Int} {x : Int} {p q : Nat} (hp : PartsLe zs x p) (hq : PartsLe zs x q) : p = q := by
  obtain ⟨a1, a2, a3⟩ := hp
  obtain ⟨b1, b2, b3⟩ := hq
  rcases Nat.lt_trichotomy p q with h | h | h
  · have := a3 p (Nat.le_refl _) (by omega); have := b2 p h; omega
  · exact h
  · have := b3 q (Nat.le_refl _) (by omega); have := a2 q h; omega
theorem getD_mem {zs : List Int} {i : Nat} (h : i < zs.length) : zs.getD i 0 ∈ zs := by
  simp [List.getD_eq_getElem?_getD, h]

/-- What After answers: 'r' and 'ok', for d and n. -/
def AftIs (zs : List Int) (d n r : Int) (ok : Bool) : Prop :=
  (zs.length = 0 ∧ r = 0 ∧ ok = false) ∨ (0 < zs.length ∧ d < zs.getD 0 0 ∧ r = 0 ∧ ok = false) ∨
  (∃ q, 0 < zs.length ∧ zs.getD 0 0 ≤ d ∧ PartsLe zs d q ∧ (zs.length : Int) - q < n ∧ r = 0 ∧ ok = false) ∨
  (∃ q m : Nat, n = m ∧ 1 ≤ m ∧ 0 < zs.length ∧ zs.getD 0 0 ≤ d ∧ PartsLe zs d q ∧ q + m ≤ zs.length ∧ r = zs.getD (q + m - 1) 0 ∧ ok = true)

/-- The first law, whole: either the answer is 'no' for m and for m + n, or it is 'yes' for m, and n days on from there is m + n days on. -/
theorem composes {zs : List Int} (h : Inc zs) (d m n : Int) (hm : 1 ≤ m) (hn : 1 ≤ n) :
    (AftIs zs d m 0 false ∧ AftIs zs d (m + n) 0 false ∧ (zs.length = 0 ∨ (0 < zs.length ∧ d < zs.getD 0 0) ∨ (0 < zs.length ∧ zs.getD 0 0 ≤ d ∧ (cntGt zs d : Int) < m))) ∨
    (∃ e f ok, AftIs zs d m e true ∧ AftIs zs d (m + n) f ok ∧ AftIs zs e n f ok ∧ 0 < zs.length ∧ zs.getD 0 0 ≤ d ∧ m ≤ (cntGt zs d : Int) ∧ d < e ∧ e ∈ zs ∧ (cntBt zs d e : Int) = m) := by
  by_cases h0 : zs.length = 0
  · exact .inl ⟨.inl ⟨h0, rfl, rfl⟩, .inl ⟨h0, rfl, rfl⟩, .inl h0⟩
  by_cases h1 : d < zs.getD 0 0
  · exact .inl ⟨.inr (.inl ⟨by omega, h1, rfl, rfl⟩), .inr (.inl ⟨by omega, h1, rfl, rfl⟩), .inr (.inl ⟨by omega, h1⟩)⟩
  obtain ⟨q, hq⟩ := parts_le_ex h d
  have hc := cntGt_parts hq
  have hql := hq.1
  by_cases h2 : (zs.length : Int) - q < m
  · exact .inl ⟨.inr (.inr (.inl ⟨q, by omega, by omega, hq, h2, rfl, rfl⟩)), .inr (.inr (.inl ⟨q, by omega, by omega, hq, by omega, rfl, rfl⟩)), .inr (.inr ⟨by omega, by omega, by omega⟩)⟩
  obtain ⟨m, rfl⟩ := Int.eq_ofNat_of_zero_le (show 0 ≤ m by omega)
  obtain ⟨n, rfl⟩ := Int.eq_ofNat_of_zero_le (show 0 ≤ n by omega)
  have hqm : q + m ≤ zs.length := by omega
  have hpe := parts_at h (q + m - 1) (by omega)
  rw [show q + m - 1 + 1 = q + m by omega] at hpe
  have hde : d < zs.getD (q + m - 1) 0 := hq.2.2 _ (by omega) (by omega)
  have h0e : zs.getD 0 0 ≤ zs.getD (q + m - 1) 0 := h.le _ _ (by omega) (by omega)
  have hbt := cntBt_parts hq hpe
  refine .inr ?_
  by_cases h3 : q + m + n ≤ zs.length
  · exact ⟨_, zs.getD (q + m + n - 1) 0, true, .inr (.inr (.inr ⟨q, m, rfl, by omega, by omega, by omega, hq, hqm, rfl, rfl⟩)),
      .inr (.inr (.inr ⟨q, m + n, by omega, by omega, by omega, by omega, hq, by omega, by rw [Nat.add_assoc], rfl⟩)),
      .inr (.inr (.inr ⟨q + m, n, rfl, by omega, by omega, h0e, hpe, h3, rfl, rfl⟩)), by omega, by omega, by omega, hde, getD_mem (by omega), by omega⟩
  · exact ⟨_, 0, false, .inr (.inr (.inr ⟨q, m, rfl, by omega, by omega, by omega, hq, hqm, rfl, rfl⟩)),
      .inr (.inr (.inl ⟨q, by omega, by omega, hq, by omega, rfl, rfl⟩)),
      .inr (.inr (.inl ⟨q + m, by omega, h0e, hpe, by omega, rfl, rfl⟩)), by omega, by omega, by omega, hde, getD_mem (by omega), by omega⟩

/-- The second law, whole. -/
theorem across {zs : List Int} (h : Inc zs) (d1 d2 n : Int) (hn : 1 ≤ n) (hd : d1 ≤ d2) (hb : cntBt zs d1 d2 = 0) :
    (AftIs zs d1 n 0 false ∧ AftIs zs d2 n 0 false ∧ (zs.length = 0 ∨ (0 < zs.length ∧ d1 < zs.getD 0 0) ∨ (0 < zs.length ∧ zs.getD 0 0 ≤ d1 ∧ (cntGt zs d1 : Int) < n))) ∨
    (∃ e, AftIs zs d1 n e true ∧ AftIs zs d2 n e true ∧ 0 < zs.length ∧ zs.getD 0 0 ≤ d1 ∧ n ≤ (cntGt zs d1 : Int) ∧ d2 < e ∧ e ∈ zs) := by
  obtain ⟨q, hq⟩ := parts_le_ex h d1
  obtain ⟨r, hr⟩ := parts_le_ex h d2
  have hbp := cntBt_parts hq hr
  have hc := cntGt_parts hq
  have hql := hq.1
  have hrl := hr.1
  have hqr : q ≤ r := by
    rcases Nat.lt_or_ge r q with e | e
    · have := hq.2.1 r e; have := hr.2.2 r (Nat.le_refl _) (by omega); omega
    · exact e
  obtain rfl : q = r := by omega
  by_cases h0 : zs.length = 0
  · exact .inl ⟨.inl ⟨h0, rfl, rfl⟩, .inl ⟨h0, rfl, rfl⟩, .inl h0⟩
  by_cases h1 : d1 < zs.getD 0 0
  · have h2 : d2 < zs.getD 0 0 := by
      refine hr.2.2 0 ?_ (by omega)
      rcases Nat.lt_or_ge 0 q with e | e
      · have := hq.2.1 0 e; omega
      · exact e
    exact .inl ⟨.inr (.inl ⟨by omega, h1, rfl, rfl⟩), .inr (.inl ⟨by omega, h2, rfl, rfl⟩), .inr (.inl ⟨by omega, h1⟩)⟩
  by_cases h2 : (zs.length : Int) - q < n
  · exact .inl ⟨.inr (.inr (.inl ⟨q, by omega, by omega, hq, h2, rfl, rfl⟩)), .inr (.inr (.inl ⟨q, by omega, by omega, hr, by omega, rfl, rfl⟩)), .inr (.inr ⟨by omega, by omega, by omega⟩)⟩
  obtain ⟨n, rfl⟩ := Int.eq_ofNat_of_zero_le (show 0 ≤ n by omega)
  exact .inr ⟨_, .inr (.inr (.inr ⟨q, n, rfl, by omega, by omega, by omega, hq, by omega, rfl, rfl⟩)), .inr (.inr (.inr ⟨q, n, rfl, by omega, by omega, by omega, hr, by omega, rfl, rfl⟩)),
    by omega, by omega, by omega, hr.2.2 _ (by omega) (by omega), getD_mem (by omega)⟩

end Pl
end Go.Proofs.Qxb6629039a
