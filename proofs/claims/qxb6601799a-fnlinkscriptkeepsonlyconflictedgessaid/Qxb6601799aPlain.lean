import Derived.Test.Qxb6601799aStep
namespace Go.Proofs.Qxb6601799a

/-- The state that link carries on: the last writer, the readers since, the edges out of each transaction. -/
structure St where
  lw : Int
  rd : List Int
  out : Nat → List (Int × Int)

def St.step (s : St) (t : Int) (wr : Bool) : St :=
  if wr then ⟨t, [], rwAll (edgeIf s.out s.lw t 1) s.rd t⟩ else ⟨s.lw, readRd s.rd t, edgeIf s.out s.lw t 2⟩

def runs (T : Nat → Int) (W : Nat → Bool) : Nat → St
  | 0 => ⟨-1, [], fun _ => []⟩
  | k + 1 => (runs T W k).step (T k) (W k)

variable {T : Nat → Int} {W : Nat → Bool}

theorem runs_lw_w {k : Nat} (h : W k = true) : (runs T W (k + 1)).lw = T k := by simp [runs, St.step, h]
theorem runs_lw_r {k : Nat} (h : W k = false) : (runs T W (k + 1)).lw = (runs T W k).lw := by simp [runs, St.step, h]
theorem runs_rd_w {k : Nat} (h : W k = true) : (runs T W (k + 1)).rd = [] := by simp [runs, St.step, h]
theorem runs_rd_r {k : Nat} (h : W k = false) : (runs T W (k + 1)).rd = readRd (runs T W k).rd (T k) := by simp [runs, St.step, h]
theorem runs_out_w {k : Nat} (h : W k = true) : (runs T W (k + 1)).out = rwAll (edgeIf (runs T W k).out (runs T W k).lw (T k) 1) (runs T W k).rd (T k) := by simp [runs, St.step, h]
theorem runs_out_r {k : Nat} (h : W k = false) : (runs T W (k + 1)).out = edgeIf (runs T W k).out (runs T W k).lw (T k) 2 := by simp [runs, St.step, h]

/-! ### What is in the edges -/
theorem mem_addE {out : Nat → List (Int × Int)} {u : Nat} {e : Int × Int} {v : Nat} {x : Int × Int} : x ∈ addE out u e v ↔ x ∈ out v ∨ (v = u ∧ x = e) := by
  unfold addE
  split
  · next h => subst h; simp
  · next h => simp [h]

theorem mem_edgeIf {out : Nat → List (Int × Int)} {lw t k : Int} {v : Nat} {x : Int × Int} : x ∈ edgeIf out lw t k v ↔ x ∈ out v ∨ (0 ≤ lw ∧ lw ≠ t ∧ v = lw.toNat ∧ x = (t, k)) := by
  unfold edgeIf
  split
  · next h => rw [mem_addE]; simp [h]
  · next h =>
    constructor
    · exact .inl
    · rintro (h1 | ⟨h1, h2, _⟩)
      · exact h1
      · exact absurd ⟨h1, h2⟩ h

theorem mem_rwAll {rd : List Int} {t : Int} {v : Nat} {x : Int × Int} : ∀ {out : Nat → List (Int × Int)}, x ∈ rwAll out rd t v ↔ x ∈ out v ∨ (∃ r ∈ rd, r ≠ t ∧ v = r.toNat ∧ x = (t, 4)) := by
  induction rd with
  | nil => intro out; simp [rwAll]
  | cons r rd ih =>
    intro out
    rw [show rwAll out (r :: rd) t = rwAll (if r = t then out else addE out r.toNat (t, 4)) rd t from rfl, ih]
    by_cases h : r = t
    · simp [h]
    · rw [if_neg h, mem_addE]
      simp only [List.mem_cons, exists_eq_or_imp]
      constructor
      · rintro ((h1 | h1) | h1)
        · exact .inl h1
        · exact .inr (.inl ⟨h, h1⟩)
        · exact .inr (.inr h1)
      · rintro (h1 | ⟨_, h1⟩ | h1)
        · exact .inl (.inl h1)
        · exact .inl (.inr h1)
        · exact .inr h1

theorem out_step (k u : Nat) (x : Int × Int) (h : x ∈ (runs T W k).out u) : x ∈ (runs T W (k + 1)).out u := by
  cases hw : W k with
  | false => rw [runs_out_r hw, mem_edgeIf]; exact .inl h
  | true => rw [runs_out_w hw, mem_rwAll, mem_edgeIf]; exact .inl (.inl h)

theorem out_mono {k m : Nat} (hkm : k ≤ m) (u : Nat) (x : Int × Int) (h : x ∈ (runs T W k).out u) : x ∈ (runs T W m).out u := by
  induction hkm with
  | refl => exact h
  | step _ ih => exact out_step _ _ _ ih

theorem mem_readRd {rd : List Int} {t r : Int} : r ∈ readRd rd t ↔ r ∈ rd ∨ r = t := by
  unfold readRd
  split
  · next h =>
    constructor
    · exact .inl
    · rintro (h1 | rfl)
      · exact h1
      · exact List.mem_of_getLast? h
  · simp

/-- All transactions lie in the graph: so does all that the state holds. -/
theorem lw_range {n m : Nat} (hT : ∀ i, i < m → 0 ≤ T i ∧ T i < n) : ∀ k, k ≤ m → -1 ≤ (runs T W k).lw ∧ (runs T W k).lw < n := by
  intro k
  induction k with
  | zero => intro _; exact ⟨by simp [runs], by simp [runs]; omega⟩
  | succ k ih =>
    intro hk
    cases hw : W k with
    | false => rw [runs_lw_r hw]; exact ih (by omega)
    | true => rw [runs_lw_w hw]; have := hT k (by omega); omega

theorem rd_range {n m : Nat} (hT : ∀ i, i < m → 0 ≤ T i ∧ T i < n) : ∀ k, k ≤ m → ∀ r ∈ (runs T W k).rd, 0 ≤ r ∧ r < n := by
  intro k
  induction k with
  | zero => intro _ r hr; simp [runs] at hr
  | succ k ih =>
    intro hk r hr
    cases hw : W k with
    | false =>
      rw [runs_rd_r hw, mem_readRd] at hr
      rcases hr with hr | rfl
      · exact ih (by omega) r hr
      · exact hT k (by omega)
    | true => rw [runs_rd_w hw] at hr; simp at hr

theorem out_range {n m : Nat} (hT : ∀ i, i < m → 0 ≤ T i ∧ T i < n) : ∀ k, k ≤ m → ∀ u, ∀ e ∈ (runs T W k).out u, 0 ≤ e.1 ∧ e.1 < n := by
  intro k
  induction k with
  | zero => intro _ u e he; simp [runs] at he
  | succ k ih =>
    intro hk u e he
    have ht := hT k (by omega)
    cases hw : W k with
    | false =>
      rw [runs_out_r hw, mem_edgeIf] at he
      rcases he with he | ⟨_, _, _, rfl⟩
      · exact ih (by omega) u e he
      · exact ht
    | true =>
      rw [runs_out_w hw, mem_rwAll, mem_edgeIf] at he
      rcases he with (he | ⟨_, _, _, rfl⟩) | ⟨_, _, _, _, rfl⟩
      · exact ih (by omega) u e he
      · exact ht
      · exact ht

/-! ### How many edges there may be -/
theorem rd_len : ∀ k, (runs T W k).rd.length ≤ k := by
  intro k
  induction k with
  | zero => simp [runs]
  | succ k ih =>
    cases hw : W k with
    | false => rw [runs_rd_r hw]; unfold readRd; split
               · omega
               · simp only [List.length_append, List.length_cons, List.length_nil]; omega
    | true => rw [runs_rd_w hw]; simp

theorem len_addE (out : Nat → List (Int × Int)) (u : Nat) (e : Int × Int) (v : Nat) : (addE out u e v).length ≤ (out v).length + 1 := by
  unfold addE; split
  · subst v; simp
  · omega
theorem len_edgeIf (out : Nat → List (Int × Int)) (lw t k : Int) (v : Nat) : (edgeIf out lw t k v).length ≤ (out v).length + 1 := by
  unfold edgeIf; split
  · exact len_addE _ _ _ _
  · omega
theorem len_rwAll (rd : List Int) (t : Int) (v : Nat) : ∀ out : Nat → List (Int × Int), (rwAll out rd t v).length ≤ (out v).length + rd.length := by
  induction rd with
  | nil => intro out; simp [rwAll]
  | cons r rd ih =>
    intro out
    rw [show rwAll out (r :: rd) t = rwAll (if r = t then out else addE out r.toNat (t, 4)) rd t from rfl]
    refine Nat.le_trans (ih _) ?_
    simp only [List.length_cons]
    split
    · omega
    · have := len_addE out r.toNat (t, 4) v; omega

/-- For one transaction: edges and readers together are at most two an operation. -/
theorem out_len (u : Nat) : ∀ k, ((runs T W k).out u).length + (runs T W k).rd.length ≤ 2 * k := by
  intro k
  induction k with
  | zero => simp [runs]
  | succ k ih =>
    cases hw : W k with
    | false =>
      rw [runs_out_r hw, runs_rd_r hw]
      have h1 := len_edgeIf (runs T W k).out (runs T W k).lw (T k) 2 u
      have h2 : (readRd (runs T W k).rd (T k)).length ≤ (runs T W k).rd.length + 1 := by unfold readRd; split <;> simp
      omega
    | true =>
      rw [runs_out_w hw, runs_rd_w hw]
      have h1 := len_rwAll (runs T W k).rd (T k) u (edgeIf (runs T W k).out (runs T W k).lw (T k) 1)
      have h2 := len_edgeIf (runs T W k).out (runs T W k).lw (T k) 1 u
      simp; omega
end Go.Proofs.Qxb6601799a
