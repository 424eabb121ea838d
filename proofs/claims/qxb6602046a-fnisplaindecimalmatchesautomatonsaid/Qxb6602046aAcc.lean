import Derived.Test.Qxb6602046aLead
namespace Go.Proofs.Qxb6602046a

def bt (s : ByteArray) (i : Nat) : Nat := if h : i < s.size then s[i].toNat else 0
theorem bt_at {s : ByteArray} {i : Nat} (h : i < s.size) : bt s i = s[i].toNat := by simp [bt, h]
def dg (x : Nat) : Prop := 48 ≤ x ∧ x ≤ 57

/-- The language: digits, or digits, a point and at most m digits. -/
def Acc (f : Nat → Nat) (L : Nat) (m : Int) : Prop :=
  (0 < L ∧ ∀ j, j < L → dg (f j)) ∨ ∃ q, 0 < q ∧ q + 1 < L ∧ (∀ j, j < q → dg (f j)) ∧ f q = 46 ∧ (∀ j, q < j → j < L → dg (f j)) ∧ ((L - q - 1 : Nat) : Int) ≤ m

theorem Acc.first {f : Nat → Nat} {L : Nat} {m : Int} (h : Acc f L m) : 0 < L ∧ dg (f 0) := by
  rcases h with ⟨h1, h2⟩ | ⟨q, h0, h1, h2, _⟩
  · exact ⟨h1, h2 0 h1⟩
  · exact ⟨by omega, h2 0 h0⟩

/-- Behind the leading digits: the end, or the point. -/
theorem Acc.behind {f : Nat → Nat} {L p : Nat} {m : Int} (h : Acc f L m) (hd : ∀ j, j < p → dg (f j)) (hp : p < L) (hn : ¬ dg (f p)) :
    f p = 46 ∧ p + 1 < L ∧ (∀ j, p < j → j < L → dg (f j)) ∧ ((L - p - 1 : Nat) : Int) ≤ m := by
  rcases h with ⟨_, h2⟩ | ⟨q, h0, h1, h2, h3, h4, h5⟩
  · exact absurd (h2 p hp) hn
  · have hpq : p = q := by
      rcases Nat.lt_trichotomy p q with h | h | h
      · exact absurd (h2 p h) hn
      · exact h
      · have := hd q h; rw [h3] at this; unfold dg at this; omega
    subst hpq
    exact ⟨h3, h1, h4, h5⟩

theorem not46 : ¬ dg 46 := by unfold dg; omega

/-- Where s's figure begins. -/
def off (s : ByteArray) : Nat := if bt s 0 = 45 then 1 else 0
def fig (s : ByteArray) (j : Nat) : Nat := bt s (off s + j)
def AccS (s : ByteArray) (m : Int) : Prop := Acc (fig s) (s.size - off s) m

theorem off_le {s : ByteArray} : off s ≤ s.size := by
  unfold off
  split
  · next h =>
    unfold bt at h
    split at h
    · omega
    · omega
  · omega

/-- What the search for leading digits says, in these words. -/
theorem LD.plain {t : ByteArray} {n : Nat} (h : LD t n) : n ≤ t.size ∧ (∀ j, j < n → dg (bt t j)) ∧ (n < t.size → ¬ dg (bt t n)) := by
  refine ⟨h.le, fun j hj => ?_, fun hn => ?_⟩
  · have hs : j < t.size := by have := h.le; omega
    rw [bt_at hs]; exact h.all j hs hj
  · rw [bt_at hn]; exact h.stop hn

theorem bt_extract {s : ByteArray} {a : Nat} (j : Nat) : bt (s.extract a s.size) j = bt s (a + j) := by
  unfold bt
  by_cases h : a + j < s.size
  · have h' : j < (s.extract a s.size).size := by simp only [ByteArray.size_extract]; omega
    rw [dif_pos h, dif_pos h', ByteArray.getElem_extract]
  · rw [dif_neg h, dif_neg (by simp only [ByteArray.size_extract]; omega)]
theorem size_tail {s : ByteArray} (a : Nat) : (s.extract a s.size).size = s.size - a := by simp only [ByteArray.size_extract]; omega
end Go.Proofs.Qxb6602046a
