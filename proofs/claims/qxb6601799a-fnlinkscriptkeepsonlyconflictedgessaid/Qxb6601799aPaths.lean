import Derived.Test.Qxb6601799aPlain
import Derived.Test.Qxb6601799aReads
namespace Go.Proofs.Qxb6601799a
variable {T : Nat → Int} {W : Nat → Bool}

/-- One admitted edge or more, one behind the other. -/
inductive Path (out : Nat → List (Int × Int)) (mask : Int) (u : Nat) : Nat → Prop
  | one {e : Int × Int} (he : e ∈ out u) (ha : adm e.2 mask = true) : Path out mask u e.1.toNat
  | more {v : Nat} {e : Int × Int} (h : Path out mask u v) (he : e ∈ out v) (ha : adm e.2 mask = true) : Path out mask u e.1.toNat

theorem adm_le {k a b : Int} (hab : a ≤ b) (h : adm k a = true) : adm k b = true := by
  simp only [adm, Bool.or_eq_true, Bool.and_eq_true, decide_eq_true_eq] at h ⊢
  rcases h with (h | h) | h
  · exact .inl (.inl h)
  · exact .inl (.inr ⟨h.1, by omega⟩)
  · exact .inr ⟨h.1, by omega⟩

theorem Path.mono {out out' : Nat → List (Int × Int)} {a b : Int} {u v : Nat} (h : Path out a u v) (ho : ∀ u, ∀ e ∈ out u, e ∈ out' u) (hab : a ≤ b) : Path out' b u v := by
  induction h with
  | one he ha => exact .one (ho _ _ he) (adm_le hab ha)
  | more _ he ha ih => exact .more ih (ho _ _ he) (adm_le hab ha)

/-- (1) A write, and whoever wrote last since. -/
theorem path_ww {i : Nat} (hi : W i = true) (h0 : ∀ j, 0 ≤ T j) : ∀ k, i < k → 0 ≤ (runs T W k).lw ∧ (T i = (runs T W k).lw ∨ Path (runs T W k).out 1 (T i).toNat (runs T W k).lw.toNat) := by
  intro k
  induction k with
  | zero => intro h; omega
  | succ k ih =>
    intro hk
    cases hw : W k with
    | false =>
      have hne : i ≠ k := fun e => by subst e; rw [hi] at hw; cases hw
      rw [runs_lw_r hw]
      obtain ⟨h1, h2⟩ := ih (by omega)
      refine ⟨h1, ?_⟩
      rcases h2 with h2 | h2
      · exact .inl h2
      · exact .inr (h2.mono (fun u e he => out_step k u e he) (Int.le_refl _))
    | true =>
      rw [runs_lw_w hw]
      refine ⟨h0 k, ?_⟩
      by_cases hik : i = k
      · subst hik; exact .inl rfl
      obtain ⟨h1, h2⟩ := ih (by omega)
      by_cases hlt : (runs T W k).lw = T k
      · rw [← hlt]
        rcases h2 with h2 | h2
        · exact .inl h2
        · exact .inr (h2.mono (fun u e he => out_step k u e he) (Int.le_refl _))
      · have hedge : (T k, (1 : Int)) ∈ (runs T W (k + 1)).out (runs T W k).lw.toNat := by
          rw [runs_out_w hw, mem_rwAll, mem_edgeIf]
          exact .inl (.inr ⟨h1, hlt, rfl, rfl⟩)
        right
        rcases h2 with h2 | h2
        · rw [h2]; exact .one hedge (by simp [adm])
        · exact .more (h2.mono (fun u e he => out_step k u e he) (Int.le_refl _)) hedge (by simp [adm])

theorem reach_ww {m i j : Nat} (hij : i < j) (hj : j < m) (hi : W i = true) (hwj : W j = true) (h0 : ∀ j, 0 ≤ T j) (hne : T i ≠ T j) : Path (runs T W m).out 1 (T i).toNat (T j).toNat := by
  have h := path_ww (T := T) (W := W) hi h0 (j + 1) (by omega)
  rw [runs_lw_w hwj] at h
  rcases h.2 with h | h
  · exact absurd h hne
  · exact h.mono (fun u e he => out_mono (by omega) u e he) (Int.le_refl _)

theorem reach_wr {m i j : Nat} (hij : i < j) (hj : j < m) (hi : W i = true) (hwj : W j = false) (h0 : ∀ j, 0 ≤ T j) (hne : T i ≠ T j) : Path (runs T W m).out 2 (T i).toNat (T j).toNat := by
  obtain ⟨h1, h2⟩ := path_ww (T := T) (W := W) hi h0 j hij
  by_cases hlt : (runs T W j).lw = T j
  · rw [← hlt]
    rcases h2 with h2 | h2
    · exact absurd (h2.trans hlt) hne
    · exact h2.mono (fun u e he => out_mono (by omega) u e he) (by omega)
  · have hedge : (T j, (2 : Int)) ∈ (runs T W m).out (runs T W j).lw.toNat := by
      refine out_mono (k := j + 1) (by omega) _ _ ?_
      rw [runs_out_r hwj, mem_edgeIf]
      exact .inr ⟨h1, hlt, rfl, rfl⟩
    rcases h2 with h2 | h2
    · rw [h2]; exact .one hedge (by simp [adm])
    · exact .more (h2.mono (fun u e he => out_mono (by omega) u e he) (by omega)) hedge (by simp [adm])

/-- (2) A read: it stands among the readers, or leads to whoever wrote last. -/
theorem path_rw {i : Nat} (hi : W i = false) (h0 : ∀ j, 0 ≤ T j) : ∀ k, i < k → T i ∈ (runs T W k).rd ∨ (0 ≤ (runs T W k).lw ∧ (T i = (runs T W k).lw ∨ Path (runs T W k).out 3 (T i).toNat (runs T W k).lw.toNat)) := by
  intro k
  induction k with
  | zero => intro h; omega
  | succ k ih =>
    intro hk
    cases hw : W k with
    | false =>
      rw [runs_lw_r hw, runs_rd_r hw]
      by_cases hik : i = k
      · subst hik; exact .inl (mem_readRd.2 (.inr rfl))
      rcases ih (by omega) with h | ⟨h1, h2⟩
      · exact .inl (mem_readRd.2 (.inl h))
      · refine .inr ⟨h1, ?_⟩
        rcases h2 with h2 | h2
        · exact .inl h2
        · exact .inr (h2.mono (fun u e he => out_step k u e he) (Int.le_refl _))
    | true =>
      have hne : i ≠ k := fun e => by subst e; rw [hi] at hw; cases hw
      rw [runs_lw_w hw]
      refine .inr ⟨h0 k, ?_⟩
      rcases ih (by omega) with h | ⟨h1, h2⟩
      · by_cases hit : T i = T k
        · exact .inl hit
        · right
          have hedge : (T k, (4 : Int)) ∈ (runs T W (k + 1)).out (T i).toNat := by
            rw [runs_out_w hw, mem_rwAll]
            exact .inr ⟨T i, h, hit, rfl, rfl⟩
          exact .one hedge (by simp [adm])
      · by_cases hlt : (runs T W k).lw = T k
        · rw [← hlt]
          rcases h2 with h2 | h2
          · exact .inl h2
          · exact .inr (h2.mono (fun u e he => out_step k u e he) (Int.le_refl _))
        · have hedge : (T k, (1 : Int)) ∈ (runs T W (k + 1)).out (runs T W k).lw.toNat := by
            rw [runs_out_w hw, mem_rwAll, mem_edgeIf]
            exact .inl (.inr ⟨h1, hlt, rfl, rfl⟩)
          right
          rcases h2 with h2 | h2
          · rw [h2]; exact .one hedge (by simp [adm])
          · exact .more (h2.mono (fun u e he => out_step k u e he) (Int.le_refl _)) hedge (by simp [adm])

theorem reach_rw {m i j : Nat} (hij : i < j) (hj : j < m) (hi : W i = false) (hwj : W j = true) (h0 : ∀ j, 0 ≤ T j) (hne : T i ≠ T j) : Path (runs T W m).out 3 (T i).toNat (T j).toNat := by
  have h := path_rw (T := T) (W := W) hi h0 (j + 1) (by omega)
  rw [runs_lw_w hwj, runs_rd_w hwj] at h
  rcases h with h | ⟨_, h | h⟩
  · simp at h
  · exact absurd h hne
  · exact h.mono (fun u e he => out_mono (by omega) u e he) (Int.le_refl _)

/-! ### The walk along the edges: what is closed under them holds whatever is reached -/
theorem Path.closed {out : Nat → List (Int × Int)} {mask : Int} {u v : Nat} {qs : List Nat} (h : Path out mask u v) (hq : ∀ x ∈ u :: qs, ∀ e ∈ out x, adm e.2 mask = true → e.1.toNat ∈ qs) : v ∈ qs := by
  induction h with
  | one he ha => exact hq u (by simp) _ he ha
  | more _ he ha ih => exact hq _ (by simp [ih]) _ he ha
end Go.Proofs.Qxb6601799a
