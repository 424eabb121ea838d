import Derived.Test.Qxb6601772aCarve
namespace Go.Proofs.Qxb6601772a

/-- a function turned at one place -/
def upd (f : Nat → Int) (j : Nat) (v : Int) (i : Nat) : Int := if i = j then v else f i
theorem upd_same (f : Nat → Int) (j : Nat) (v : Int) : upd f j v j = v := by simp [upd]
theorem upd_other {f : Nat → Int} {j i : Nat} (v : Int) (h : i ≠ j) : upd f j v i = f i := by simp [upd, h]

section
variable (τ χ : Nat → Nat)

/-- what holds at the head of transaction t's turn: the accesses' number, items, last accesses, starts, and each touch's access -/
structure Out (n items t L : Nat) (g h l s : Nat → Int) : Prop where
  len : L = cum τ χ n t
  item : ∀ (m x : Nat), (flat τ χ n t)[m]? = some x → h m = (x : Int)
  last : ∀ x, x < items → l x < (cum τ χ n t : Int)
  start : ∀ u, u < t → s u = (cum τ χ n u : Int)
  touch : ∀ j, j < n → τ j < t → g j = (acc τ χ n j : Int)

/-- the same behind k of transaction t's touches -/
structure Inn (n items t k L : Nat) (g h l s : Nat → Int) : Prop where
  len : L = cum τ χ n t + (seen τ χ t n k).length
  item : ∀ (m x : Nat), (flat τ χ n t ++ seen τ χ t n k)[m]? = some x → h m = (x : Int)
  met : ∀ x, x ∈ seen τ χ t n k → l x = (cum τ χ n t + (seen τ χ t n k).idxOf x : Nat)
  last : ∀ x, x < items → x ∉ seen τ χ t n k → l x < (cum τ χ n t : Int)
  start : ∀ u, u ≤ t → s u = (cum τ χ n u : Int)
  touch : ∀ j, j < n → (τ j < t ∨ j ∈ (lst τ t n).take k) → g j = (acc τ χ n j : Int)

variable {τ χ}

theorem Out.turn {n items t L : Nat} {g h l s : Nat → Int} (H : Out τ χ n items t L g h l s) : Inn τ χ n items t 0 L g h l (upd s t (L : Int)) where
  len := by rw [seen_zero]; simpa using H.len
  item := fun m x hm => by rw [seen_zero, List.append_nil] at hm; exact H.item m x hm
  met := fun x hx => by rw [seen_zero] at hx; cases hx
  last := fun x hx _ => H.last x hx
  start := fun u hu => by
    by_cases e : u = t
    · subst e; rw [upd_same, H.len]
    · rw [upd_other _ e]; exact H.start u (by omega)
  touch := fun j hj h => by
    rcases h with h | h
    · exact H.touch j hj h
    · simp at h

theorem Inn.done {n items t L : Nat} {g h l s : Nat → Int} (H : Inn τ χ n items t (lst τ t n).length L g h l s) : Out τ χ n items (t + 1) L g h l s where
  len := by rw [H.len, seen_all]; rfl
  item := fun m x hm => by
    have := H.item m x
    rw [seen_all] at this
    exact this hm
  last := fun x hx => by
    have e : cum τ χ n (t + 1) = cum τ χ n t + (its τ χ t n).length := rfl
    by_cases hm : x ∈ seen τ χ t n (lst τ t n).length
    · rw [H.met x hm]
      rw [seen_all] at hm ⊢
      have := List.idxOf_lt_length_of_mem hm
      omega
    · have := H.last x hx hm
      omega
  start := fun u hu => H.start u (by omega)
  touch := fun j hj h => by
    apply H.touch j hj
    by_cases e : τ j < t
    · exact Or.inl e
    · right
      rw [List.take_length]
      exact (mem_lst τ).2 ⟨hj, by omega⟩

theorem take_mem {l : List Nat} {k i j : Nat} (h : l[k]? = some i) (hj : j ∈ l.take (k + 1)) : j ∈ l.take k ∨ j = i := by
  rw [List.take_add_one, h] at hj
  simpa using hj

/-- a touch of an item that this transaction has touched -/
theorem Inn.old {n items t k L i : Nat} {g h l s : Nat → Int} (H : Inn τ χ n items t k L g h l s) (hi : (lst τ t n)[k]? = some i) (hs : χ i ∈ seen τ χ t n k) :
    l (χ i) = (acc τ χ n i : Int) ∧ Inn τ χ n items t (k + 1) L (upd g i (l (χ i))) h l s := by
  have hl : l (χ i) = (acc τ χ n i : Int) := by rw [H.met _ hs, acc_old τ χ hi hs]
  have es : seen τ χ t n (k + 1) = seen τ χ t n k := by rw [seen_succ τ χ hi, if_pos hs]
  refine ⟨hl, ⟨by rw [es]; exact H.len, by rw [es]; exact H.item, by rw [es]; exact H.met, by rw [es]; exact H.last, H.start, fun j hj hd => ?_⟩⟩
  by_cases e : j = i
  · subst e; rw [upd_same, hl]
  · rw [upd_other _ e]
    apply H.touch j hj
    rcases hd with hd | hd
    · exact Or.inl hd
    · rcases take_mem hi hd with hd | hd
      · exact Or.inr hd
      · exact absurd hd e

/-- a touch of a new item -/
theorem Inn.new {n items t k L i : Nat} {g h l s : Nat → Int} (H : Inn τ χ n items t k L g h l s) (hi : (lst τ t n)[k]? = some i) (hs : χ i ∉ seen τ χ t n k) :
    Inn τ χ n items t (k + 1) (L + 1) (upd g i (L : Int)) (upd h L (χ i : Int)) (upd l (χ i) (L : Int)) s := by
  have es : seen τ χ t n (k + 1) = seen τ χ t n k ++ [χ i] := by rw [seen_succ τ χ hi, if_neg hs]
  have ha := acc_next τ χ hi hs
  have hL := H.len
  refine ⟨by rw [es, List.length_append, List.length_singleton, hL]; omega, fun m x hm => ?_, fun x hx => ?_, fun x hx hn => ?_, H.start, fun j hj hd => ?_⟩
  · rw [es, ← List.append_assoc] at hm
    have hfl : (flat τ χ n t ++ seen τ χ t n k).length = L := by rw [List.length_append, flat_len, hL]
    by_cases e : m = L
    · subst e
      rw [List.getElem?_append_right (by omega), hfl, Nat.sub_self] at hm
      simp at hm
      rw [upd_same, hm]
    · rw [upd_other _ e]
      by_cases e2 : m < L
      · rw [List.getElem?_append_left (by omega)] at hm
        exact H.item m x hm
      · rw [List.getElem?_eq_none (by rw [List.length_append, hfl]; simp; omega)] at hm
        cases hm
  · rw [es] at hx ⊢
    rw [List.idxOf_append]
    by_cases e : x = χ i
    · subst e
      rw [if_neg hs, upd_same, hL]
      simp
    · have hx' : x ∈ seen τ χ t n k := by
        rcases List.mem_append.1 hx with h1 | h1
        · exact h1
        · exact absurd (by simpa using h1) e
      rw [if_pos hx', upd_other _ e, H.met x hx']
  · rw [es] at hn
    have e : x ≠ χ i := fun e => hn (by simp [e])
    rw [upd_other _ e]
    exact H.last x hx (fun h1 => hn (List.mem_append.2 (Or.inl h1)))
  · by_cases e : j = i
    · subst e; rw [upd_same, ha, hL]
    · rw [upd_other _ e]
      apply H.touch j hj
      rcases hd with hd | hd
      · exact Or.inl hd
      · rcases take_mem hi hd with hd | hd
        · exact Or.inr hd
        · exact absurd hd e
end
end Go.Proofs.Qxb6601772a
