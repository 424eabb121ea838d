/- The numbering of accesses, in plain lists: no Go in sight. -/
namespace Go.Proofs.Qxb6601772a

/-- each element at its first place -/
def dd (l : List Nat) : List Nat := l.foldl (fun acc x => if x ∈ acc then acc else acc ++ [x]) []

theorem dd_snoc (l : List Nat) (x : Nat) : dd (l ++ [x]) = if x ∈ dd l then dd l else dd l ++ [x] := by
  unfold dd
  rw [List.foldl_append]
  rfl

theorem snoc_ind {p : List Nat → Prop} (h0 : p []) (h1 : ∀ l x, p l → p (l ++ [x])) (l : List Nat) : p l := by
  have : ∀ m : List Nat, p m.reverse := by
    intro m
    induction m with
    | nil => exact h0
    | cons x m ih => rw [List.reverse_cons]; exact h1 _ _ ih
  have h := this l.reverse
  rwa [List.reverse_reverse] at h

theorem mem_dd (x : Nat) (l : List Nat) : x ∈ dd l ↔ x ∈ l := by
  refine snoc_ind (p := fun l => x ∈ dd l ↔ x ∈ l) (by simp [dd]) ?_ l
  intro l y ih
  rw [dd_snoc]
  by_cases h : y ∈ dd l
  · rw [if_pos h, ih, List.mem_append, List.mem_singleton]
    constructor
    · exact Or.inl
    · rintro (g | rfl)
      · exact g
      · exact ih.1 h
  · rw [if_neg h, List.mem_append, List.mem_append, ih]

theorem dd_nodup (l : List Nat) : (dd l).Nodup := by
  refine snoc_ind (p := fun l => (dd l).Nodup) (by simp [dd]) ?_ l
  intro l y ih
  rw [dd_snoc]
  by_cases h : y ∈ dd l
  · rw [if_pos h]; exact ih
  · rw [if_neg h, List.nodup_append]
    refine ⟨ih, by simp, ?_⟩
    intro a ha b hb e
    simp at hb
    subst hb
    subst e
    exact h ha

theorem dd_len (l : List Nat) : (dd l).length ≤ l.length := by
  refine snoc_ind (p := fun l => (dd l).length ≤ l.length) (by simp [dd]) ?_ l
  intro l y ih
  rw [dd_snoc]
  split <;> simp <;> omega

theorem dd_prefix (l m : List Nat) : ∃ r, dd (l ++ m) = dd l ++ r := by
  refine snoc_ind (p := fun m => ∃ r, dd (l ++ m) = dd l ++ r) ⟨[], by simp⟩ ?_ m
  intro m y ⟨r, ih⟩
  rw [← List.append_assoc, dd_snoc, ih]
  split
  · exact ⟨r, rfl⟩
  · exact ⟨r ++ [y], by rw [List.append_assoc]⟩

section
variable (τ χ : Nat → Nat)

/-- the first i touches' numbers that transaction t has -/
def lst (t i : Nat) : List Nat := (List.range i).filter (fun j => τ j == t)

theorem lst_succ (t i : Nat) : lst τ t (i + 1) = if τ i = t then lst τ t i ++ [i] else lst τ t i := by
  unfold lst
  rw [List.range_succ, List.filter_append]
  by_cases h : τ i = t
  · simp [h]
  · have : (τ i == t) = false := by simp [h]
    simp [h, this]

theorem lst_lt {t i j : Nat} (h : j ∈ lst τ t i) : j < i ∧ τ j = t := by
  simp [lst] at h
  exact h
theorem mem_lst {t i j : Nat} : j ∈ lst τ t i ↔ j < i ∧ τ j = t := by
  simp [lst]
theorem lst_len (t i : Nat) : (lst τ t i).length ≤ i := by
  have := List.length_filter_le (fun j => τ j == t) (List.range i)
  simpa [lst] using this
theorem lst_split {t i n : Nat} (h : i ≤ n) : ∃ r, lst τ t n = lst τ t i ++ r := by
  induction n with
  | zero => exact ⟨[], by have : i = 0 := by omega
                          subst this; simp⟩
  | succ n ih =>
    by_cases e : i = n + 1
    · subst e; exact ⟨[], by simp⟩
    · obtain ⟨r, hr⟩ := ih (by omega)
      rw [lst_succ]
      split
      · exact ⟨r ++ [n], by rw [hr, List.append_assoc]⟩
      · exact ⟨r, hr⟩
theorem lst_mono {t i n : Nat} (h : i ≤ n) : (lst τ t i).length ≤ (lst τ t n).length := by
  obtain ⟨r, hr⟩ := lst_split τ (t := t) h
  rw [hr]; simp

/-- where the list of transaction t begins in the one array -/
def offs (n : Nat) : Nat → Nat
  | 0 => 0
  | t + 1 => offs n t + (lst τ t n).length

theorem offs_mono {n s t : Nat} (h : s ≤ t) : offs τ n s ≤ offs τ n t := by
  induction t with
  | zero => have : s = 0 := by omega
            subst this; exact Nat.le_refl _
  | succ t ih =>
    by_cases e : s = t + 1
    · subst e; exact Nat.le_refl _
    · have h1 := ih (by omega)
      have h2 : offs τ n (t + 1) = offs τ n t + (lst τ t n).length := rfl
      omega

theorem offs_step (i : Nat) : ∀ m, offs τ (i + 1) m = offs τ i m + (if τ i < m then 1 else 0)
  | 0 => by simp [offs]
  | m + 1 => by
    have ih := offs_step i m
    unfold offs
    rw [ih, lst_succ]
    by_cases h : τ i = m
    · rw [if_pos h, if_neg (by omega), if_pos (by omega)]
      simp
      omega
    · rw [if_neg h]
      by_cases h1 : τ i < m
      · rw [if_pos h1, if_pos (by omega)]; omega
      · rw [if_neg h1, if_neg (by omega)]; omega

theorem offs_all {nt : Nat} : ∀ i, (∀ j, j < i → τ j < nt) → offs τ i nt = i
  | 0, _ => by
    have : ∀ m, offs τ 0 m = 0 := by
      intro m
      induction m with
      | zero => rfl
      | succ m ih => unfold offs; rw [ih]; simp [lst]
    exact this nt
  | i + 1, h => by
    rw [offs_step, offs_all i (fun j hj => h j (by omega)), if_pos (h i (by omega))]

theorem offs_fits {n nt t : Nat} (h : ∀ j, j < n → τ j < nt) (ht : t < nt) : offs τ n t + (lst τ t n).length ≤ n := by
  have h1 := offs_mono τ (n := n) (show t + 1 ≤ nt by omega)
  rw [offs_all τ n h] at h1
  exact h1

/-- the items of transaction t's first touches, in order, among the first i -/
def its (t i : Nat) : List Nat := dd ((lst τ t i).map χ)

theorem its_succ_other {t i : Nat} (h : τ i ≠ t) : its τ χ t (i + 1) = its τ χ t i := by
  unfold its; rw [lst_succ, if_neg h]
theorem its_succ {t i : Nat} (h : τ i = t) : its τ χ t (i + 1) = if χ i ∈ its τ χ t i then its τ χ t i else its τ χ t i ++ [χ i] := by
  unfold its; rw [lst_succ, if_pos h, List.map_append]; exact dd_snoc _ _
theorem its_split {t i n : Nat} (h : i ≤ n) : ∃ r, its τ χ t n = its τ χ t i ++ r := by
  obtain ⟨r, hr⟩ := lst_split τ (t := t) h
  unfold its
  rw [hr, List.map_append]
  exact dd_prefix _ _
theorem its_len (t i : Nat) : (its τ χ t i).length ≤ (lst τ t i).length := by
  have := dd_len ((lst τ t i).map χ)
  simpa [its] using this

/-- where the block of transaction t begins -/
def cum (n : Nat) : Nat → Nat
  | 0 => 0
  | t + 1 => cum n t + (its τ χ t n).length

/-- the blocks of the transactions below t -/
def flat (n : Nat) : Nat → List Nat
  | 0 => []
  | t + 1 => flat n t ++ its τ χ t n

theorem flat_len (n : Nat) : ∀ t, (flat τ χ n t).length = cum τ χ n t
  | 0 => rfl
  | t + 1 => by unfold flat cum; rw [List.length_append, flat_len n t]

theorem cum_mono {n s t : Nat} (h : s ≤ t) : cum τ χ n s ≤ cum τ χ n t := by
  induction t with
  | zero => have : s = 0 := by omega
            subst this; exact Nat.le_refl _
  | succ t ih =>
    by_cases e : s = t + 1
    · subst e; exact Nat.le_refl _
    · have h1 := ih (by omega)
      have h2 : cum τ χ n (t + 1) = cum τ χ n t + (its τ χ t n).length := rfl
      omega

theorem cum_le_offs (n : Nat) : ∀ t, cum τ χ n t ≤ offs τ n t
  | 0 => Nat.le_refl _
  | t + 1 => by
    have := cum_le_offs n t
    have := its_len τ χ t n
    unfold cum offs
    omega

theorem cum_le {n nt t : Nat} (h : ∀ j, j < n → τ j < nt) (ht : t ≤ nt) : cum τ χ n t ≤ n := by
  have h1 := cum_le_offs τ χ n t
  have h2 := offs_mono τ (n := n) ht
  rw [offs_all τ n h] at h2
  omega

theorem flat_get {n nt t : Nat} (ht : t < nt) (k : Nat) (hk : k < (its τ χ t n).length) : (flat τ χ n nt)[cum τ χ n t + k]? = some ((its τ χ t n)[k]) := by
  induction nt with
  | zero => omega
  | succ m ih =>
    show (flat τ χ n m ++ its τ χ m n)[cum τ χ n t + k]? = _
    by_cases e : t = m
    · subst e
      rw [List.getElem?_append_right (by rw [flat_len]; omega), flat_len, Nat.add_sub_cancel_left, List.getElem?_eq_getElem hk]
    · have h1 : cum τ χ n t + k < (flat τ χ n m).length := by
        rw [flat_len]
        have := cum_mono τ χ (n := n) (show t + 1 ≤ m by omega)
        have e2 : cum τ χ n (t + 1) = cum τ χ n t + (its τ χ t n).length := rfl
        omega
      rw [List.getElem?_append_left h1]
      exact ih (by omega)

/-- the access of touch i -/
def acc (n i : Nat) : Nat := cum τ χ n (τ i) + (its τ χ (τ i) n).idxOf (χ i)

theorem mem_its {t i j : Nat} (hj : j < i) (ht : τ j = t) : χ j ∈ its τ χ t i := by
  unfold its
  rw [mem_dd, List.mem_map]
  exact ⟨j, (mem_lst τ).2 ⟨hj, ht⟩, rfl⟩

theorem its_item {t i x : Nat} (h : x ∈ its τ χ t i) : ∃ j, j < i ∧ τ j = t ∧ χ j = x := by
  unfold its at h
  rw [mem_dd, List.mem_map] at h
  obtain ⟨j, hj, rfl⟩ := h
  have := (mem_lst τ).1 hj
  exact ⟨j, this.1, this.2, rfl⟩

theorem acc_lt {n i : Nat} (hi : i < n) : cum τ χ n (τ i) ≤ acc τ χ n i ∧ acc τ χ n i < cum τ χ n (τ i + 1) := by
  have h1 := List.idxOf_lt_length_of_mem (mem_its τ χ hi rfl)
  have e : cum τ χ n (τ i + 1) = cum τ χ n (τ i) + (its τ χ (τ i) n).length := rfl
  unfold acc
  omega

theorem acc_item {n nt i : Nat} (hi : i < n) (ht : τ i < nt) : (flat τ χ n nt)[acc τ χ n i]? = some (χ i) := by
  have h1 := List.idxOf_lt_length_of_mem (mem_its τ χ hi rfl)
  unfold acc
  rw [flat_get τ χ ht _ h1]
  congr 1
  exact List.getElem_idxOf h1

/-- touch i's access against what has been met so far -/
theorem acc_met {n i : Nat} (hi : i < n) (h : χ i ∈ its τ χ (τ i) i) : acc τ χ n i < cum τ χ n (τ i) + (its τ χ (τ i) i).length := by
  obtain ⟨r, hr⟩ := its_split τ χ (t := τ i) (show i ≤ n by omega)
  unfold acc
  rw [hr, List.idxOf_append, if_pos h]
  have := List.idxOf_lt_length_of_mem h
  omega
theorem acc_new {n i : Nat} (hi : i < n) (h : χ i ∉ its τ χ (τ i) i) : acc τ χ n i = cum τ χ n (τ i) + (its τ χ (τ i) i).length := by
  obtain ⟨r, hr⟩ := its_split τ χ (t := τ i) (show i + 1 ≤ n by omega)
  rw [its_succ τ χ rfl, if_neg h, List.append_assoc] at hr
  unfold acc
  rw [hr, List.idxOf_append, if_neg h]
  simp

/-! ### the walk over one transaction's list -/

/-- what has been met of t's list behind k of its touches -/
def seen (t n k : Nat) : List Nat := dd (((lst τ t n).take k).map χ)

theorem seen_zero (t n : Nat) : seen τ χ t n 0 = [] := by simp [seen, dd]
theorem seen_all (t n : Nat) : seen τ χ t n (lst τ t n).length = its τ χ t n := by simp [seen, its]
theorem seen_succ {t n k i : Nat} (h : (lst τ t n)[k]? = some i) : seen τ χ t n (k + 1) = if χ i ∈ seen τ χ t n k then seen τ χ t n k else seen τ χ t n k ++ [χ i] := by
  unfold seen
  rw [List.take_add_one, h, List.map_append]
  exact dd_snoc _ _
theorem seen_split (t n k : Nat) : ∃ r, its τ χ t n = seen τ χ t n k ++ r := by
  unfold seen its
  obtain ⟨r, hr⟩ := dd_prefix (((lst τ t n).take k).map χ) (((lst τ t n).drop k).map χ)
  rw [← List.map_append, List.take_append_drop] at hr
  exact ⟨r, hr⟩
theorem seen_len (t n k : Nat) : (seen τ χ t n k).length ≤ (its τ χ t n).length := by
  obtain ⟨r, hr⟩ := seen_split τ χ t n k
  rw [hr]; simp
theorem acc_old {t n k i : Nat} (h : (lst τ t n)[k]? = some i) (hs : χ i ∈ seen τ χ t n k) : acc τ χ n i = cum τ χ n t + (seen τ χ t n k).idxOf (χ i) := by
  have ht := (lst_lt τ (List.mem_of_getElem? h)).2
  obtain ⟨r, hr⟩ := seen_split τ χ t n k
  unfold acc
  rw [ht, hr, List.idxOf_append, if_pos hs]
theorem acc_next {t n k i : Nat} (h : (lst τ t n)[k]? = some i) (hs : χ i ∉ seen τ χ t n k) : acc τ χ n i = cum τ χ n t + (seen τ χ t n k).length := by
  have ht := (lst_lt τ (List.mem_of_getElem? h)).2
  obtain ⟨r, hr⟩ := seen_split τ χ t n (k + 1)
  rw [seen_succ τ χ h, if_neg hs, List.append_assoc] at hr
  unfold acc
  rw [ht, hr, List.idxOf_append, if_neg hs]
  simp
theorem seen_room {t n nt k i : Nat} (hn : ∀ j, j < n → τ j < nt) (ht : t < nt) (h : (lst τ t n)[k]? = some i) (hs : χ i ∉ seen τ χ t n k) : cum τ χ n t + (seen τ χ t n k).length < n := by
  have h1 := seen_len τ χ t n (k + 1)
  rw [seen_succ τ χ h, if_neg hs] at h1
  simp at h1
  have h2 := cum_le τ χ hn (show t + 1 ≤ nt by omega)
  have e : cum τ χ n (t + 1) = cum τ χ n t + (its τ χ t n).length := rfl
  omega
end
end Go.Proofs.Qxb6601772a
