import Derived.Test.Qxb6601758aParseNeg
namespace Go.Proofs.Qxb6601758a
open Go.ChangeShapes Go.WideShapes Go.ChangeAt Go.RowKit

structure Canon (n : Bool) (a b : ByteArray) : Prop where
  da : digs a = true
  db : digs b = true
  la : ∀ h : 0 < a.size, a[0].toNat ≠ 48
  lb : ∀ h : 0 < b.size, b[b.size - 1].toNat ≠ 48
  nz : n = true → ¬ (a.size = 0 ∧ b.size = 0)

/-- the digits ahead of the point, as they are written -/
def whole (a : ByteArray) : ByteArray := if a.size = 0 then ⟨#[48]⟩ else a

theorem one_size (c : UInt8) : (ByteArray.mk #[c]).size = 1 := rfl
theorem one_get (c : UInt8) (i : Nat) (h : i < (ByteArray.mk #[c]).size) : (ByteArray.mk #[c])[i] = c := by
  have h1 := one_size c
  obtain rfl : i = 0 := by omega
  rfl
theorem one_list (c : UInt8) : (ByteArray.mk #[c]).toList = [c] := by rw [ByteArray.toList_eq]

theorem whole_pos (a : ByteArray) : 0 < (whole a).size := by
  unfold whole; split
  · simp [one_size]
  · omega
theorem whole_dig {a : ByteArray} (h : digs a = true) : ∀ k (hk : k < (whole a).size), 48 ≤ (whole a)[k].toNat ∧ (whole a)[k].toNat ≤ 57 := by
  unfold whole
  split
  · intro k hk; rw [one_get]; decide
  · intro k hk; exact digs_at h k hk
theorem whole_lead {n : Bool} {a b : ByteArray} (c : Canon n a b) (h1 : 1 < (whole a).size) (h0 : 0 < (whole a).size) : (whole a)[0].toNat ≠ 48 := by
  revert h1 h0
  unfold whole
  split
  · intro h; rw [one_size] at h; omega
  · intro _ h0; exact c.la h0
theorem empty_of {a : ByteArray} (h : a.size = 0) : a = ⟨#[]⟩ := by
  apply ByteArray.ext_getElem
  · exact h
  · intro i hi; omega
theorem whole_back {n : Bool} {a b : ByteArray} (c : Canon n a b) : (if ((whole a).toList == [48]) = true then (⟨#[]⟩ : ByteArray) else whole a) = a := by
  unfold whole
  split
  · rename_i h
    rw [one_list]
    simp
    exact (empty_of h).symm
  · rename_i h
    split
    · rename_i g
      exfalso
      have h0 : 0 < a.size := by omega
      have := c.la h0
      rw [beq_iff_eq, ByteArray.toList_eq] at g
      have e : a = ⟨#[48]⟩ := by
        apply ByteArray.ext
        apply Array.ext'
        exact g
      subst e
      exact this rfl
    · rfl

theorem cat1_size (c : UInt8) (x : ByteArray) : ((⟨#[c]⟩ : ByteArray) ++ x).size = 1 + x.size := by rw [ByteArray.size_append, one_size]
theorem cat1_zero (c : UInt8) (x : ByteArray) (h : 0 < ((⟨#[c]⟩ : ByteArray) ++ x).size) : ((⟨#[c]⟩ : ByteArray) ++ x)[0] = c := by
  rw [ByteArray.getElem_append_left (by rw [one_size]; omega), one_get]
theorem cat1_get (c : UInt8) (x : ByteArray) (i : Nat) (h : i < ((⟨#[c]⟩ : ByteArray) ++ x).size) (hi : 1 ≤ i) : ((⟨#[c]⟩ : ByteArray) ++ x)[i] = x[i - 1]'(by rw [cat1_size] at h; omega) := by
  rw [ByteArray.getElem_append_right (by rw [one_size]; omega)]
  simp only [one_size]

theorem cat1_drop (c : UInt8) (x : ByteArray) : ((⟨#[c]⟩ : ByteArray) ++ x).extract 1 ((⟨#[c]⟩ : ByteArray) ++ x).size = x := by
  apply ByteArray.ext_getElem
  · simp [one_size]
  · intro i hi hi'
    simp only [ByteArray.getElem_extract]
    rw [cat1_get _ _ _ _ (by omega)]
    congr 1
    omega

theorem nodot_pos {n : Bool} {a b : ByteArray} (c : Canon n a b) : NoDot (whole a) 0 where
  pos := whole_pos a
  dig := fun k h _ => whole_dig c.da k h
  lead := fun h => whole_lead c (by omega) _

theorem nodot_neg {n : Bool} {a b : ByteArray} (c : Canon n a b) : NoDot ((⟨#[45]⟩ : ByteArray) ++ whole a) 1 where
  pos := by rw [cat1_size]; have := whole_pos a; omega
  dig := fun k h hk => by
    rw [cat1_get _ _ _ _ hk]
    exact whole_dig c.da _ _
  lead := fun h => by
    rw [cat1_size] at h
    rw [cat1_get _ _ _ _ (by omega)]
    exact whole_lead c (by omega) _

/-- the text with a point -/
def pointed (a b : ByteArray) : ByteArray := whole a ++ ((⟨#[46]⟩ : ByteArray) ++ b)
theorem pointed_size (a b : ByteArray) : (pointed a b).size = (whole a).size + 1 + b.size := by
  unfold pointed; rw [ByteArray.size_append, cat1_size]; omega
theorem pointed_lo (a b : ByteArray) (i : Nat) (h : i < (pointed a b).size) (hi : i < (whole a).size) : (pointed a b)[i] = (whole a)[i] := by
  revert h; unfold pointed; intro h; rw [ByteArray.getElem_append_left hi]
theorem pointed_at (a b : ByteArray) (h : (whole a).size < (pointed a b).size) : (pointed a b)[(whole a).size] = 46 := by
  revert h; unfold pointed; intro h; rw [ByteArray.getElem_append_right (Nat.le_refl _)]
  simp only [Nat.sub_self]
  rw [cat1_zero]
theorem pointed_hi (a b : ByteArray) (i : Nat) (h : i < (pointed a b).size) (hi : (whole a).size < i) : (pointed a b)[i] = b[i - (whole a).size - 1]'(by rw [pointed_size] at h; omega) := by
  revert h; unfold pointed; intro h; rw [ByteArray.getElem_append_right (by omega), cat1_get _ _ _ _ (by omega)]

theorem pointed_dig {n : Bool} {a b : ByteArray} (c : Canon n a b) : ∀ k (h : k < (pointed a b).size), k ≠ (whole a).size → 48 ≤ (pointed a b)[k].toNat ∧ (pointed a b)[k].toNat ≤ 57 := by
  intro k h hk
  by_cases h1 : k < (whole a).size
  · rw [pointed_lo _ _ _ _ h1]; exact whole_dig c.da _ _
  · rw [pointed_hi _ _ _ _ (by omega)]; exact digs_at c.db _ _

theorem dot_pos {n : Bool} {a b : ByteArray} (c : Canon n a b) (hb : 0 < b.size) : Dot (pointed a b) 0 (whole a).size where
  pos := whole_pos a
  fits := by rw [pointed_size]; omega
  dig := fun k h _ hk => pointed_dig c k h hk
  dot := by rw [pointed_at]; rfl
  lead := fun h => by rw [pointed_lo _ _ _ _ (whole_pos a)]; exact whole_lead c (by omega) _
  last := by
    rw [pointed_hi _ _ _ _ (by rw [pointed_size]; omega)]
    have e : (pointed a b).size - 1 - (whole a).size - 1 = b.size - 1 := by rw [pointed_size]; omega
    simp only [e]
    exact c.lb hb

theorem dot_neg {n : Bool} {a b : ByteArray} (c : Canon n a b) (hb : 0 < b.size) : Dot ((⟨#[45]⟩ : ByteArray) ++ pointed a b) 1 (1 + (whole a).size) where
  pos := by have := whole_pos a; omega
  fits := by rw [cat1_size, pointed_size]; omega
  dig := fun k h hk1 hk => by
    rw [cat1_get _ _ _ _ hk1]
    exact pointed_dig c _ _ (by omega)
  dot := by
    rw [cat1_get _ _ _ _ (by omega)]
    simp only [Nat.add_sub_cancel_left]
    rw [pointed_at]; rfl
  lead := fun h => by
    rw [cat1_get _ _ _ _ (by omega)]
    simp only [Nat.sub_self]
    rw [pointed_lo _ _ _ _ (whole_pos a)]; exact whole_lead c (by omega) _
  last := by
    have hs : ((⟨#[45]⟩ : ByteArray) ++ pointed a b).size - 1 = 1 + (whole a).size + b.size := by rw [cat1_size, pointed_size]; omega
    simp only [hs]
    rw [cat1_get _ _ _ _ (by omega), pointed_hi _ _ _ _ (by omega)]
    have e : 1 + (whole a).size + b.size - 1 - (whole a).size - 1 = b.size - 1 := by omega
    simp only [e]
    exact c.lb hb

theorem pointed_whole (a b : ByteArray) : (pointed a b).extract 0 (whole a).size = whole a := by
  apply ByteArray.ext_getElem
  · simp only [ByteArray.size_extract, pointed_size]; omega
  · intro i hi hi'
    simp only [ByteArray.getElem_extract, Nat.zero_add]
    rw [pointed_lo _ _ _ _ hi']
theorem pointed_frac (a b : ByteArray) : (pointed a b).extract ((whole a).size + 1) (pointed a b).size = b := by
  apply ByteArray.ext_getElem
  · simp only [ByteArray.size_extract, pointed_size]; omega
  · intro i hi hi'
    simp only [ByteArray.getElem_extract]
    rw [pointed_hi _ _ _ _ (by omega)]
    congr 1
    omega
theorem cat_whole (a b : ByteArray) : ((⟨#[45]⟩ : ByteArray) ++ pointed a b).extract 1 (1 + (whole a).size) = whole a := by
  apply ByteArray.ext_getElem
  · simp only [ByteArray.size_extract, cat1_size, pointed_size]; omega
  · intro i hi hi'
    simp only [ByteArray.getElem_extract]
    rw [cat1_get _ _ _ _ (by omega)]
    simp only [Nat.add_sub_cancel_left]
    rw [pointed_lo _ _ _ _ hi']
theorem cat_frac (a b : ByteArray) : ((⟨#[45]⟩ : ByteArray) ++ pointed a b).extract (1 + (whole a).size + 1) ((⟨#[45]⟩ : ByteArray) ++ pointed a b).size = b := by
  apply ByteArray.ext_getElem
  · simp only [ByteArray.size_extract, cat1_size, pointed_size]; omega
  · intro i hi hi'
    simp only [ByteArray.getElem_extract]
    rw [cat1_get _ _ _ _ (by omega), pointed_hi _ _ _ _ (by omega)]
    congr 1
    omega

/-- what String writes -/
def text (n : Bool) (a b : ByteArray) : ByteArray :=
  if n then (⟨#[45]⟩ : ByteArray) ++ (if b.size = 0 then whole a else pointed a b) else (if b.size = 0 then whole a else pointed a b)

theorem whole_le (a : ByteArray) : (whole a).size ≤ a.size + 1 := by
  unfold whole; split
  · simp [one_size]
  · omega

theorem parse_text {n : Bool} {a b : ByteArray} (c : Canon n a b) (w : World) (hs : a.size + b.size ≤ 1048576) :
    Calls Try.prog 8 #[.string (text n a b)] w fun e w' => e = .returned (.tuple #[.bool n, .string a, .string b, .bool true]) ∧ w = w' := by
  have hw := whole_le a
  have hp := whole_pos a
  by_cases hb : b.size = 0
  · have eb := empty_of hb
    cases n with
    | false =>
      have et : text false a b = whole a := by simp [text, hb]
      rw [et]
      refine (parse_pos_nodot (whole a) w (by omega) (nodot_pos c)).mono ?_
      rintro e w' ⟨rfl, rfl⟩
      rw [whole_back c, eb]
      exact ⟨rfl, rfl⟩
    | true =>
      have et : text true a b = (⟨#[45]⟩ : ByteArray) ++ whole a := by simp [text, hb]
      have ha : a.size ≠ 0 := fun h => c.nz rfl ⟨h, hb⟩
      have ew : whole a = a := by simp [whole, ha]
      have hz : ((whole a).toList == [48]) = false := by
        have := whole_back c
        cases hq : ((whole a).toList == [48]) with
        | false => rfl
        | true => rw [hq] at this; simp at this; rw [← this] at ha; exact absurd rfl ha
      rw [et]
      refine (parse_neg_nodot ((⟨#[45]⟩ : ByteArray) ++ whole a) w (by rw [cat1_size]; omega) (by rw [cat1_size]; omega) (nodot_neg c) (by rw [cat1_zero]; rfl) (by rw [cat1_drop]; exact hz)).mono ?_
      rintro e w' ⟨rfl, rfl⟩
      rw [cat1_drop, ew, eb]
      exact ⟨rfl, rfl⟩
  · have hb0 : 0 < b.size := by omega
    have hsz := pointed_size a b
    cases n with
    | false =>
      have et : text false a b = pointed a b := by simp [text, hb]
      rw [et]
      refine (parse_pos_dot (pointed a b) (whole a).size w (by omega) (dot_pos c hb0)).mono ?_
      rintro e w' ⟨rfl, rfl⟩
      rw [pointed_whole, whole_back c, pointed_frac]
      exact ⟨rfl, rfl⟩
    | true =>
      have et : text true a b = (⟨#[45]⟩ : ByteArray) ++ pointed a b := by simp [text, hb]
      rw [et]
      refine (parse_neg_dot ((⟨#[45]⟩ : ByteArray) ++ pointed a b) (1 + (whole a).size) w (by rw [cat1_size]; omega) (by rw [cat1_size]; omega) (by rw [cat1_zero]; rfl) (dot_neg c hb0)).mono ?_
      rintro e w' ⟨rfl, rfl⟩
      rw [cat_whole, whole_back c, cat_frac]
      exact ⟨rfl, rfl⟩
end Go.Proofs.Qxb6601758a
