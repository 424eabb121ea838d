import Derived.Test.Qxb6601772aKey
namespace Go.Proofs.Qxb6601772a
open Go.Maps

section
variable (K : Nat → Int) (KL : Nat → Lit)

/-- the map of last unlocks after P steps, as a datum -/
def Dm : Nat → DataW Unit
  | 0 => .map []
  | p + 1 => if K p = 117 then (Dm p).put (KL p) (.lit (.int .i64 (p : Int))) else Dm p

/-- step p unlocks the lock l -/
def same (p : Nat) (l : Lit) : Bool := decide (K p = 117) && (KL p).sameKey l

/-- the last of the first P steps that unlocks l -/
def last : Nat → Lit → Nat
  | 0, _ => 0
  | p + 1, l => if same K KL p l = true then p else last p l

/-- one of the first P steps unlocks l -/
def met : Nat → Lit → Bool
  | 0, _ => false
  | p + 1, l => same K KL p l || met p l

def fin (P q : Nat) : Bool := decide (K q = 117) && (last K KL P (KL q) == q)

/-- how many of the first Q steps are the last of the first P for their lock -/
def cnt (P : Nat) : Nat → Nat
  | 0 => 0
  | q + 1 => cnt P q + (if fin K KL P q = true then 1 else 0)

def dup (P : Nat) (l : Lit) : Nat → Nat
  | 0 => 0
  | q + 1 => dup P l q + (if fin K KL P q = true ∧ (KL q).sameKey l = true then 1 else 0)

variable {K KL}

theorem Dm_isMap : ∀ P, IsMap (Dm K KL P)
  | 0 => isMap_empty
  | p + 1 => by
    unfold Dm; split
    · exact (Dm_isMap p).put _ _
    · exact Dm_isMap p

theorem Dm_tidy {n : Nat} (hk : ∀ p, p < n → WideAt.IsKeyLit (KL p)) : ∀ P, P ≤ n → Tidy (Dm K KL P)
  | 0, _ => tidy_empty
  | p + 1, h => by
    unfold Dm; split
    · exact (Dm_tidy hk p (by omega)).put (hk p (by omega)) _
    · exact Dm_tidy hk p (by omega)

theorem same_self {p : Nat} (hk : WideAt.IsKeyLit (KL p)) (h : K p = 117) : same K KL p (KL p) = true := by simp [same, h, WideAt.sameKey_self hk]
theorem same_iff {p : Nat} {l : Lit} (hk : WideAt.IsKeyLit (KL p)) : same K KL p l = true ↔ K p = 117 ∧ KL p = l := by
  constructor
  · intro h
    simp [same] at h
    exact ⟨h.1, WideAt.sameKey_eq h.2⟩
  · rintro ⟨h, rfl⟩
    exact same_self hk h

theorem last_lt {P : Nat} {l : Lit} (h : met K KL P l = true) : last K KL P l < P := by
  induction P with
  | zero => simp [met] at h
  | succ p ih =>
    unfold last
    split
    · omega
    · rename_i hs
      simp [met, hs] at h
      have := ih h
      omega

theorem last_same {n P : Nat} {l : Lit} (hk : ∀ p, p < n → WideAt.IsKeyLit (KL p)) (hP : P ≤ n) (h : met K KL P l = true) : K (last K KL P l) = 117 ∧ KL (last K KL P l) = l := by
  induction P with
  | zero => simp [met] at h
  | succ p ih =>
    unfold last
    split
    · rename_i hs
      exact (same_iff (hk p (by omega))).1 hs
    · rename_i hs
      simp [met, hs] at h
      exact ih (by omega) h

theorem last_ge {n P p : Nat} (hk : ∀ p, p < n → WideAt.IsKeyLit (KL p)) (hP : P ≤ n) (hp : p < P) (h : K p = 117) : met K KL P (KL p) = true ∧ p ≤ last K KL P (KL p) := by
  induction P with
  | zero => omega
  | succ q ih =>
    by_cases e : p = q
    · subst e
      have := same_self (hk p (by omega)) h
      simp [met, last, this]
    · have := ih (by omega) (by omega)
      unfold met last
      refine ⟨by rw [this.1]; simp, ?_⟩
      split
      · omega
      · exact this.2

theorem has_Dm {n : Nat} (hk : ∀ p, p < n → WideAt.IsKeyLit (KL p)) (l : Lit) : ∀ P, P ≤ n → Maps.has (Dm K KL P) l = met K KL P l
  | 0, _ => by simp [Dm, met, Maps.has_eq]
  | p + 1, h => by
    have ih := has_Dm hk l p (by omega)
    unfold Dm met
    by_cases hK : K p = 117
    · rw [if_pos hK]
      by_cases e : KL p = l
      · subst e
        rw [has_put_same (Dm_isMap p) (hk p (by omega)), same_self (hk p (by omega)) hK]
        rfl
      · rw [has_put_other (fun g => e g.symm), ih]
        have : same K KL p l = false := by
          cases hs : same K KL p l with
          | false => rfl
          | true => exact absurd ((same_iff (hk p (by omega))).1 hs).2 e
        rw [this]; rfl
    · rw [if_neg hK, ih]
      simp [same, hK]

theorem at_Dm {n : Nat} (hk : ∀ p, p < n → WideAt.IsKeyLit (KL p)) (l : Lit) (z : DataW Unit) : ∀ P, P ≤ n → met K KL P l = true → (Dm K KL P).atKey l z = .lit (.int .i64 (last K KL P l : Int))
  | 0, _, h => by simp [met] at h
  | p + 1, h, hm => by
    unfold Dm last
    by_cases hK : K p = 117
    · rw [if_pos hK]
      by_cases e : KL p = l
      · subst e
        rw [atKey_put_same (Dm_isMap p) (hk p (by omega)), if_pos (same_self (hk p (by omega)) hK)]
      · have hs : same K KL p l = false := by
          cases hs : same K KL p l with
          | false => rfl
          | true => exact absurd ((same_iff (hk p (by omega))).1 hs).2 e
        rw [atKey_put_other (fun g => e g.symm), hs]
        simp [met, hs] at hm
        simpa using at_Dm hk l z p (by omega) hm
    · have hs : same K KL p l = false := by simp [same, hK]
      rw [if_neg hK, hs]
      simp [met, hs] at hm
      simpa using at_Dm hk l z p (by omega) hm

theorem dup_is {n P : Nat} (hk : ∀ p, p < n → WideAt.IsKeyLit (KL p)) (hP : P ≤ n) (l : Lit) : ∀ Q, Q ≤ P → dup K KL P l Q = if met K KL P l = true ∧ last K KL P l < Q then 1 else 0
  | 0, _ => by simp [dup]
  | q + 1, hQ => by
    have ih := dup_is hk hP l q (by omega)
    unfold dup
    rw [ih]
    have hkey : (fin K KL P q = true ∧ (KL q).sameKey l = true) ↔ (met K KL P l = true ∧ last K KL P l = q) := by
      constructor
      · rintro ⟨h1, h2⟩
        have e := WideAt.sameKey_eq h2
        simp [fin] at h1
        have := last_ge hk hP (by omega : q < P) h1.1
        rw [e] at this
        rw [e] at h1
        exact ⟨this.1, h1.2⟩
      · rintro ⟨h1, h2⟩
        have := last_same hk hP h1
        rw [h2] at this
        refine ⟨?_, by rw [this.2]; rw [← this.2]; exact WideAt.sameKey_self (hk q (by omega))⟩
        simp [fin, this.1, this.2, h2]
    by_cases hm : met K KL P l = true
    · by_cases h1 : last K KL P l < q
      · rw [if_pos ⟨hm, h1⟩, if_neg (by rw [hkey]; omega), if_pos ⟨hm, by omega⟩]
      · rw [if_neg (by omega)]
        by_cases h2 : last K KL P l = q
        · rw [if_pos (hkey.2 ⟨hm, h2⟩), if_pos ⟨hm, by omega⟩]
        · rw [if_neg (fun g => h2 (hkey.1 g).2), if_neg (by omega)]
    · rw [if_neg (fun g => hm g.1), if_neg (fun g => hm (hkey.1 g).1), if_neg (fun g => hm g.1)]

theorem cnt_dup {n P : Nat} (hk : ∀ p, p < n → WideAt.IsKeyLit (KL p)) (hP : P < n) (hK : K P = 117) : ∀ Q, Q ≤ P → cnt K KL (P + 1) Q + dup K KL P (KL P) Q = cnt K KL P Q
  | 0, _ => rfl
  | q + 1, hQ => by
    have ih := cnt_dup hk hP hK q (by omega)
    unfold cnt dup
    have hsam : same K KL P (KL q) = (KL q).sameKey (KL P) := by
      cases hs : (KL q).sameKey (KL P) with
      | true =>
        have e := WideAt.sameKey_eq hs
        rw [e]; exact same_self (hk P hP) hK
      | false =>
        cases hs2 : same K KL P (KL q) with
        | false => rfl
        | true =>
          have e := ((same_iff (hk P hP)).1 hs2).2
          rw [e, WideAt.sameKey_self (hk q (by omega))] at hs
          cases hs
    have e1 : fin K KL (P + 1) q = (fin K KL P q && !(KL q).sameKey (KL P)) := by
      unfold fin
      rw [show last K KL (P + 1) (KL q) = if same K KL P (KL q) = true then P else last K KL P (KL q) from rfl, hsam]
      cases hs : (KL q).sameKey (KL P) with
      | true =>
        have : (P == q) = false := by rw [beq_eq_false_iff_ne]; omega
        simp [this]
      | false => simp
    rw [e1]
    cases hf : fin K KL P q <;> cases hs : (KL q).sameKey (KL P) <;> simp <;> omega

theorem cnt_other {P : Nat} (hK : ¬ K P = 117) : ∀ Q, cnt K KL (P + 1) Q = cnt K KL P Q
  | 0 => rfl
  | q + 1 => by
    have ih := cnt_other hK q
    have hs : same K KL P (KL q) = false := by simp [same, hK]
    unfold cnt
    rw [ih]
    have : fin K KL (P + 1) q = fin K KL P q := by simp [fin, last, hs]
    rw [this]

theorem size_Dm {n : Nat} (hk : ∀ p, p < n → WideAt.IsKeyLit (KL p)) : ∀ P, P ≤ n → Maps.size (Dm K KL P) = cnt K KL P P
  | 0, _ => by simp [Dm, cnt, Maps.size_eq]
  | p + 1, h => by
    have ih := size_Dm hk p (by omega)
    by_cases hK : K p = 117
    · have hd := dup_is (K := K) hk (by omega : p ≤ n) (KL p) p (Nat.le_refl _)
      have hc := cnt_dup hk (by omega : p < n) hK p (Nat.le_refl _)
      have hf : fin K KL (p + 1) p = true := by simp [fin, hK, last, same_self (hk p (by omega)) hK]
      have e1 : Dm K KL (p + 1) = (Dm K KL p).put (KL p) (.lit (.int .i64 (p : Int))) := by simp [Dm, hK]
      rw [e1, size_put (Dm_tidy hk p (by omega)), has_Dm hk (KL p) p (by omega)]
      show _ = cnt K KL (p + 1) p + (if fin K KL (p + 1) p = true then 1 else 0)
      rw [hf]
      by_cases hm : met K KL p (KL p) = true
      · have hl := last_lt hm
        rw [if_pos ⟨hm, hl⟩] at hd
        rw [if_pos hm, ih]
        simp
        omega
      · rw [if_neg (fun g => hm g.1)] at hd
        rw [if_neg hm, ih]
        simp
        omega
    · have e1 : Dm K KL (p + 1) = Dm K KL p := by simp [Dm, hK]
      have hf : fin K KL (p + 1) p = false := by simp [fin, hK]
      rw [e1, ih]
      show _ = cnt K KL (p + 1) p + (if fin K KL (p + 1) p = true then 1 else 0)
      rw [hf, cnt_other hK]
      simp

end
end Go.Proofs.Qxb6601772a
