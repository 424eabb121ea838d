import Derived.Test.Qxb6601799aPlain
namespace Go.Proofs.Qxb6601799a
variable {T : Nat → Int} {W : Nat → Bool}

def firstOf (T : Nat → Int) (W : Nat → Bool) (wr : Bool) : Nat → Nat → Int
  | 0, _ => -1
  | k + 1, u => if W k = wr ∧ T k = (u : Int) ∧ firstOf T W wr k u < 0 then (k : Int) else firstOf T W wr k u
def lastOf (T : Nat → Int) (W : Nat → Bool) (wr : Bool) : Nat → Nat → Int
  | 0, _ => -1
  | k + 1, u => if W k = wr ∧ T k = (u : Int) then (k : Int) else lastOf T W wr k u
def cnt (W : Nat → Bool) (wr : Bool) : Nat → Nat
  | 0 => 0
  | k + 1 => if W k = wr then cnt W wr k + 1 else cnt W wr k

theorem firstOf_lt (wr : Bool) (u : Nat) : ∀ k, -1 ≤ firstOf T W wr k u ∧ firstOf T W wr k u < k := by
  intro k
  induction k with
  | zero => simp [firstOf]
  | succ k ih => simp only [firstOf]; split <;> omega
theorem lastOf_lt (wr : Bool) (u : Nat) : ∀ k, -1 ≤ lastOf T W wr k u ∧ lastOf T W wr k u < k := by
  intro k
  induction k with
  | zero => simp [lastOf]
  | succ k ih => simp only [lastOf]; split <;> omega

theorem first_le {wr : Bool} {u i : Nat} (hi : W i = wr) (ht : T i = (u : Int)) : ∀ k, i < k → 0 ≤ firstOf T W wr k u ∧ firstOf T W wr k u ≤ i := by
  intro k
  induction k with
  | zero => intro h; omega
  | succ k ih =>
    intro h
    simp only [firstOf]
    by_cases e : i = k
    · subst e
      have := firstOf_lt (T := T) (W := W) wr u i
      split
      · omega
      · next hc =>
        have : ¬ firstOf T W wr i u < 0 := fun h => hc ⟨hi, ht, h⟩
        omega
    · have := ih (by omega)
      rw [if_neg (by omega)]
      exact this

theorem last_ge {wr : Bool} {u i : Nat} (hi : W i = wr) (ht : T i = (u : Int)) : ∀ k, i < k → (i : Int) ≤ lastOf T W wr k u := by
  intro k
  induction k with
  | zero => intro h; omega
  | succ k ih =>
    intro h
    simp only [lastOf]
    by_cases e : i = k
    · subst e
      rw [if_pos ⟨hi, ht⟩]; exact Int.le_refl _
    · have := ih (by omega)
      split <;> omega

theorem lw_from : ∀ k, 0 ≤ (runs T W k).lw → ∃ i, i < k ∧ W i = true ∧ T i = (runs T W k).lw := by
  intro k
  induction k with
  | zero => intro h; simp [runs] at h
  | succ k ih =>
    intro h
    cases hw : W k with
    | false =>
      rw [runs_lw_r hw] at h ⊢
      obtain ⟨i, h1, h2, h3⟩ := ih h
      exact ⟨i, by omega, h2, h3⟩
    | true => rw [runs_lw_w hw]; exact ⟨k, by omega, hw, rfl⟩

theorem rd_from : ∀ k, ∀ r ∈ (runs T W k).rd, ∃ i, i < k ∧ W i = false ∧ T i = r := by
  intro k
  induction k with
  | zero => intro r hr; simp [runs] at hr
  | succ k ih =>
    intro r hr
    cases hw : W k with
    | false =>
      rw [runs_rd_r hw, mem_readRd] at hr
      rcases hr with hr | rfl
      · obtain ⟨i, h1, h2, h3⟩ := ih r hr
        exact ⟨i, by omega, h2, h3⟩
      · exact ⟨k, by omega, hw, rfl⟩
    | true => rw [runs_rd_w hw] at hr; simp at hr

/-- An edge of the conflict graph of its kind, among the first k operations. -/
def EdgeOK (T : Nat → Int) (W : Nat → Bool) (k u : Nat) (e : Int × Int) : Prop :=
  ∃ i j, i < j ∧ j < k ∧ (T i).toNat = u ∧ T i ≠ T j ∧ T j = e.1 ∧ (e.2 = 1 ∧ W i = true ∧ W j = true ∨ e.2 = 2 ∧ W i = true ∧ W j = false ∨ e.2 = 4 ∧ W i = false ∧ W j = true)

theorem EdgeOK.step {k u : Nat} {e : Int × Int} (h : EdgeOK T W k u e) : EdgeOK T W (k + 1) u e := by
  obtain ⟨i, j, h1, h2, h3⟩ := h
  exact ⟨i, j, h1, by omega, h3⟩

theorem out_from : ∀ k u, ∀ e ∈ (runs T W k).out u, EdgeOK T W k u e := by
  intro k
  induction k with
  | zero => intro u e he; simp [runs] at he
  | succ k ih =>
    intro u e he
    cases hw : W k with
    | false =>
      rw [runs_out_r hw, mem_edgeIf] at he
      rcases he with he | ⟨h0, hne, hu, rfl⟩
      · exact (ih u e he).step
      · obtain ⟨i, h1, h2, h3⟩ := lw_from k h0
        exact ⟨i, k, h1, by omega, by rw [h3, hu], by rw [h3]; exact hne, rfl, .inr (.inl ⟨rfl, h2, hw⟩)⟩
    | true =>
      rw [runs_out_w hw, mem_rwAll, mem_edgeIf] at he
      rcases he with (he | ⟨h0, hne, hu, rfl⟩) | ⟨r, hr, hne, hu, rfl⟩
      · exact (ih u e he).step
      · obtain ⟨i, h1, h2, h3⟩ := lw_from k h0
        exact ⟨i, k, h1, by omega, by rw [h3, hu], by rw [h3]; exact hne, rfl, .inl ⟨rfl, h2, hw⟩⟩
      · obtain ⟨i, h1, h2, h3⟩ := rd_from k r hr
        exact ⟨i, k, h1, by omega, by rw [h3, hu], by rw [h3]; exact hne, rfl, .inr (.inr ⟨rfl, h2, hw⟩)⟩

/-- What the checker asks of an edge. -/
theorem edge_asked {m n u : Nat} (hT : ∀ i, i < m → 0 ≤ T i ∧ T i < n) {e : Int × Int} (he : e ∈ (runs T W m).out u) :
    ∃ v : Nat, e.1 = (v : Int) ∧ v < n ∧ v ≠ u ∧
      (e.2 = 1 ∧ 0 ≤ firstOf T W true m u ∧ firstOf T W true m u < lastOf T W true m v ∨
       e.2 = 2 ∧ 0 ≤ firstOf T W true m u ∧ firstOf T W true m u < lastOf T W false m v ∨
       e.2 = 4 ∧ 0 ≤ firstOf T W false m u ∧ firstOf T W false m u < lastOf T W true m v) := by
  obtain ⟨i, j, hij, hj, hu, hne, hv, hk⟩ := out_from m u e he
  have hTi := hT i (by omega)
  have hTj := hT j hj
  have hui : T i = (u : Int) := by omega
  refine ⟨(T j).toNat, by omega, by omega, by omega, ?_⟩
  have hvj : T j = ((T j).toNat : Int) := by omega
  rcases hk with ⟨h1, h2, h3⟩ | ⟨h1, h2, h3⟩ | ⟨h1, h2, h3⟩
  · have a := first_le h2 hui m (by omega)
    have b := last_ge h3 hvj m hj
    exact .inl ⟨h1, a.1, by omega⟩
  · have a := first_le h2 hui m (by omega)
    have b := last_ge h3 hvj m hj
    exact .inr (.inl ⟨h1, a.1, by omega⟩)
  · have a := first_le h2 hui m (by omega)
    have b := last_ge h3 hvj m hj
    exact .inr (.inr ⟨h1, a.1, by omega⟩)

/-! ### How many edges -/
def tot (out : Nat → List (Int × Int)) : Nat → Nat
  | 0 => 0
  | n + 1 => tot out n + (out n).length

theorem tot_addE (out : Nat → List (Int × Int)) (u : Nat) (e : Int × Int) : ∀ n, tot (addE out u e) n = tot out n + if u < n then 1 else 0 := by
  intro n
  induction n with
  | zero => simp [tot]
  | succ n ih =>
    simp only [tot, ih]
    by_cases h : n = u
    · subst h
      simp [addE]; omega
    · have : addE out u e n = out n := by simp [addE, h]
      rw [this]
      by_cases h2 : u < n
      · rw [if_pos h2, if_pos (by omega)]; omega
      · rw [if_neg h2, if_neg (by omega)]; omega

theorem tot_edgeIf (out : Nat → List (Int × Int)) (lw t k : Int) (n : Nat) : tot (edgeIf out lw t k) n ≤ tot out n + 1 := by
  unfold edgeIf
  split
  · rw [tot_addE]; split <;> omega
  · omega

theorem tot_rwAll (rd : List Int) (t : Int) (n : Nat) : ∀ out : Nat → List (Int × Int), tot (rwAll out rd t) n ≤ tot out n + rd.length := by
  induction rd with
  | nil => intro out; simp [rwAll]
  | cons r rd ih =>
    intro out
    rw [show rwAll out (r :: rd) t = rwAll (if r = t then out else addE out r.toNat (t, 4)) rd t from rfl]
    refine Nat.le_trans (ih _) ?_
    simp only [List.length_cons]
    split
    · omega
    · rw [tot_addE]; split <;> omega

theorem tot_runs (n : Nat) : ∀ k, tot (runs T W k).out n + (runs T W k).rd.length ≤ cnt W true k + 2 * cnt W false k := by
  intro k
  induction k with
  | zero =>
    have : ∀ n, tot (fun _ => []) n = 0 := by
      intro n
      induction n with
      | zero => rfl
      | succ n ih => simp [tot, ih]
    simp [runs, cnt, this]
  | succ k ih =>
    cases hw : W k with
    | false =>
      rw [runs_out_r hw, runs_rd_r hw]
      have h1 := tot_edgeIf (runs T W k).out (runs T W k).lw (T k) 2 n
      have h2 : (readRd (runs T W k).rd (T k)).length ≤ (runs T W k).rd.length + 1 := by unfold readRd; split <;> simp
      simp only [cnt, hw, if_true, Bool.false_eq_true, if_false]; omega
    | true =>
      rw [runs_out_w hw, runs_rd_w hw]
      have h1 := tot_rwAll (runs T W k).rd (T k) n (edgeIf (runs T W k).out (runs T W k).lw (T k) 1)
      have h2 := tot_edgeIf (runs T W k).out (runs T W k).lw (T k) 1 n
      simp only [cnt, hw, if_true, Bool.true_eq_false, if_false, List.length_nil]; omega

theorem cnt_le (wr : Bool) : ∀ k, cnt W wr k ≤ k := by
  intro k
  induction k with
  | zero => simp [cnt]
  | succ k ih => simp only [cnt]; split <;> omega
theorem tot_mono (out : Nat → List (Int × Int)) {a b : Nat} (h : a ≤ b) : tot out a ≤ tot out b := by
  induction h with
  | refl => exact Nat.le_refl _
  | step _ ih => simp only [tot]; omega
end Go.Proofs.Qxb6601799a
