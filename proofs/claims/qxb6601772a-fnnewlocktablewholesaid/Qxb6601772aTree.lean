import Derived.Test.Qxb6601772aCount
namespace Go.Proofs.Qxb6601772a

/-- node k is node j or above it -/
def anc (k j : Nat) : Bool := (List.range (j + 1)).any (fun i => j / 2 ^ i == k)

theorem anc_iff {k j : Nat} (hk : 0 < k) : anc k j = true ↔ ∃ i, j / 2 ^ i = k := by
  unfold anc
  rw [List.any_eq_true]
  constructor
  · rintro ⟨i, _, h⟩
    exact ⟨i, by simpa using h⟩
  · rintro ⟨i, h⟩
    refine ⟨i, ?_, by simpa using h⟩
    rw [List.mem_range]
    apply Nat.lt_of_not_le
    intro hi
    have h1 : j < 2 ^ i := Nat.lt_of_lt_of_le Nat.lt_two_pow_self (Nat.pow_le_pow_right (by omega) (by omega))
    rw [Nat.div_eq_of_lt h1] at h
    omega

theorem anc_self {j : Nat} (hj : 0 < j) : anc j j = true := (anc_iff hj).2 ⟨0, by simp⟩
theorem anc_le {k j : Nat} (hk : 0 < k) (h : anc k j = true) : k ≤ j := by
  obtain ⟨i, hi⟩ := (anc_iff hk).1 h
  rw [← hi]
  exact Nat.div_le_self _ _
theorem anc_half {k j : Nat} (hk : 0 < k) (hk2 : 0 < k / 2) (h : anc k j = true) : anc (k / 2) j = true := by
  obtain ⟨i, hi⟩ := (anc_iff hk).1 h
  exact (anc_iff hk2).2 ⟨i + 1, by rw [Nat.pow_succ, ← Nat.div_div_eq_div_mul, hi]⟩
/-- between a node and the one right above it lies none -/
theorem anc_gap {i k j : Nat} (hi : 0 < i) (hk : 0 < k) (h1 : anc i j = true) (h2 : anc k j = true) (hlt : i < k) : i ≤ k / 2 := by
  obtain ⟨x, hx⟩ := (anc_iff hi).1 h1
  obtain ⟨y, hy⟩ := (anc_iff hk).1 h2
  have hxy : y < x := by
    apply Nat.lt_of_not_le
    intro hle
    have : j / 2 ^ y ≤ j / 2 ^ x := Nat.div_le_div_left (Nat.pow_le_pow_right (by omega) hle) (Nat.pow_pos (by omega))
    omega
  have : j / 2 ^ x ≤ j / 2 ^ (y + 1) := Nat.div_le_div_left (Nat.pow_le_pow_right (by omega) (by omega)) (Nat.pow_pos (by omega))
  rw [Nat.pow_succ, ← Nat.div_div_eq_div_mul, hy] at this
  omega

theorem anc_kids {k j : Nat} (hk : 0 < k) (hj : k < j) : anc k j = true ↔ (anc (2 * k) j = true ∨ anc (2 * k + 1) j = true) := by
  constructor
  · intro h
    obtain ⟨i, hi⟩ := (anc_iff hk).1 h
    cases i with
    | zero => simp at hi; omega
    | succ i =>
      rw [Nat.pow_succ, ← Nat.div_div_eq_div_mul] at hi
      have : j / 2 ^ i = 2 * k ∨ j / 2 ^ i = 2 * k + 1 := by omega
      rcases this with e | e
      · exact Or.inl ((anc_iff (by omega)).2 ⟨i, e⟩)
      · exact Or.inr ((anc_iff (by omega)).2 ⟨i, e⟩)
  · rintro (h | h)
    · have := anc_half (by omega) (by omega) h
      rwa [show 2 * k / 2 = k by omega] at this
    · have := anc_half (by omega) (by omega) h
      rwa [show (2 * k + 1) / 2 = k by omega] at this

theorem anc_apart {k j : Nat} (hk : 0 < k) (h1 : anc (2 * k) j = true) (h2 : anc (2 * k + 1) j = true) : False := by
  have := anc_gap (by omega) (by omega) h1 h2 (by omega)
  omega

/-- how many of the leaves m .. m+d-1 lie below node k -/
def lv (k m : Nat) : Nat → Nat
  | 0 => 0
  | d + 1 => lv k m d + (if anc k (m + d) = true then 1 else 0)

theorem lv_le (k m : Nat) : ∀ d, lv k m d ≤ d
  | 0 => Nat.le_refl _
  | d + 1 => by
    have := lv_le k m d
    unfold lv
    split <;> omega

theorem anc_leaf {k m j : Nat} (hm : m ≤ k) (hk : 0 < k) (hj : j < 2 * m) : anc k j = true ↔ j = k := by
  constructor
  · intro h
    have h1 := anc_le hk h
    by_cases e : j = k
    · exact e
    · have h2 := anc_gap hk (by omega) h (anc_self (by omega : 0 < j)) (by omega)
      omega
  · rintro rfl
    exact anc_self hk

theorem lv_leaf {k m : Nat} (hm : m ≤ k) (hk : 0 < k) : ∀ d, d ≤ m → lv k m d = if k < m + d then 1 else 0
  | 0, _ => by simp [lv]; omega
  | d + 1, h => by
    have ih := lv_leaf hm hk d (by omega)
    have ha := anc_leaf hm hk (by omega : m + d < 2 * m)
    unfold lv
    rw [ih]
    by_cases e : m + d = k
    · rw [if_pos (ha.2 e), if_neg (by omega), if_pos (by omega)]
    · rw [if_neg (fun g => e (ha.1 g))]
      by_cases h1 : k < m + d
      · rw [if_pos h1, if_pos (by omega)]
      · rw [if_neg h1, if_neg (by omega)]

theorem lv_kids {k m : Nat} (hm : k < m) (hk : 0 < k) : ∀ d, lv k m d = lv (2 * k) m d + lv (2 * k + 1) m d
  | 0 => rfl
  | d + 1 => by
    have ih := lv_kids hm hk d
    have ha := anc_kids hk (by omega : k < m + d)
    unfold lv
    rw [ih]
    cases h1 : anc (2 * k) (m + d) <;> cases h2 : anc (2 * k + 1) (m + d) <;> cases h3 : anc k (m + d) <;> simp [h1, h2, h3] at ha <;> simp <;> try omega
    exact (anc_apart hk h1 h2).elim

/-- what newLockTable puts at node k -/
theorem lv_self {k m : Nat} (hk : 0 < k) (h1 : m ≤ k) (h2 : k < 2 * m) : lv k m m = 1 := by
  rw [lv_leaf h1 hk m (Nat.le_refl _), if_pos (by omega)]

/-- the model's row while it walks up from leaf j: all nodes above k have been met -/
def up (m j k i : Nat) : Nat := if i = 0 then 0 else lv i m (j - m) + (if anc i j = true ∧ k < i then 1 else 0)

theorem up_start {m j i : Nat} : up m j j i = if i = 0 then 0 else lv i m (j - m) := by
  unfold up
  by_cases h : i = 0
  · simp [h]
  · rw [if_neg h, if_neg h, if_neg]
    · omega
    · rintro ⟨h1, h2⟩
      have := anc_le (by omega) h1
      omega

theorem up_step {m j k i : Nat} (hk : 0 < k) (ha : anc k j = true) : up m j (k / 2) i = if i = k then up m j k i + 1 else up m j k i := by
  unfold up
  by_cases h : i = 0
  · subst h
    have h0 : ¬ (0 = k) := by omega
    simp [h0]
  · rw [if_neg h, if_neg h]
    by_cases e : i = k
    · subst e
      rw [if_pos rfl, if_pos ⟨ha, by omega⟩, if_neg (by omega)]
    · rw [if_neg e]
      congr 1
      by_cases hai : anc i j = true
      · by_cases h1 : k < i
        · rw [if_pos ⟨hai, by omega⟩, if_pos ⟨hai, h1⟩]
        · have := anc_gap (by omega) hk hai ha (by omega)
          rw [if_neg (by omega), if_neg (by omega)]
      · rw [if_neg (fun g => hai g.1), if_neg (fun g => hai g.1)]

theorem up_end {m j i : Nat} (hj : m ≤ j) : up m j 0 i = if i = 0 then 0 else lv i m (j + 1 - m) := by
  unfold up
  by_cases h : i = 0
  · simp [h]
  · rw [if_neg h, if_neg h]
    have e : j + 1 - m = (j - m) + 1 := by omega
    rw [e]
    show _ = lv i m (j - m) + (if anc i (m + (j - m)) = true then 1 else 0)
    rw [show m + (j - m) = j by omega]
    congr 1
    by_cases hai : anc i j = true
    · rw [if_pos ⟨hai, by omega⟩, if_pos hai]
    · rw [if_neg (fun g => hai g.1), if_neg hai]

theorem up_le (m j k i : Nat) : up m j k i ≤ j - m + 1 := by
  unfold up
  have := lv_le i m (j - m)
  split
  · omega
  · split <;> omega
end Go.Proofs.Qxb6601772a
