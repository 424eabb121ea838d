import Derived.Test.Qxb6601758aPlain
namespace Go.Proofs.Qxb6601758a
open Go.ChangeShapes Go.WideShapes Go.ChangeAt Go.RowKit

set_option maxHeartbeats 400000 in
theorem bytes_any (n : Bool) (a b : ByteArray) (w : World) (ha : a.size ≤ maxLen) (hb : b.size ≤ maxLen) :
    Calls Try.prog 4 #[.bool n, .string a, .string b] w fun e w' => (∃ r, e = .returned (.bool r) ∧ (r = true → a.size + b.size ≤ 1048576)) ∧ w = w' := by
  unfold maxLen at ha hb
  by_cases h1 : a.size ≤ 1048576
  · by_cases h2 : b.size ≤ 1048576
    · by_cases h3 : a.size + b.size ≤ 1048576
      · go_enter Try.func4, Try.ntmps4
        go_wp2
        go_ret
        exact ⟨⟨true, rfl, fun _ => h3⟩, rfl⟩
      · go_enter Try.func4, Try.ntmps4
        go_wp2
        go_ret
        exact ⟨⟨false, rfl, fun h => by simp at h⟩, rfl⟩
    · go_enter Try.func4, Try.ntmps4
      go_wp2
      go_ret
      exact ⟨⟨false, rfl, fun h => by simp at h⟩, rfl⟩
  · go_enter Try.func4, Try.ntmps4
    go_wp2
    go_ret
    exact ⟨⟨false, rfl, fun h => by simp at h⟩, rfl⟩

theorem isEmpty_of {x : ByteArray} (h : x.size = 0) : x.toList.isEmpty = true := by
  rw [empty_of h, ByteArray.toList_eq]; rfl

set_option maxHeartbeats 800000 in
theorem canonical_any (n : Bool) (a b : ByteArray) (w : World) (ha : a.size ≤ 1048576) (hb : b.size ≤ 1048576) :
    Calls Try.prog 5 #[.bool n, .string a, .string b] w fun e w' => (∃ r, e = .returned (.bool r) ∧ (r = true → Canon n a b)) ∧ w = w' := by
  have ha' : a.size ≤ maxLen := by unfold maxLen; omega
  have hb' : b.size ≤ maxLen := by unfold maxLen; omega
  by_cases hA : digs a = true
  · by_cases hB : digs b = true
    · by_cases hla : ∃ h : 0 < a.size, a[0].toNat = 48
      · obtain ⟨h0, h1⟩ := hla
        have h1 : ((a[0].toNat : Int) == 48) = true := by rw [beq_iff_eq]; omega
        go_enter Try.func5, Try.ntmps5
        go_wp2_with (go_at_call 9; refine (digits_any _ _ (by assumption)).mono ?_; rintro e w' ⟨rfl, rfl⟩)
        go_ret
        exact ⟨⟨false, rfl, fun h => by simp at h⟩, rfl⟩
      by_cases hlb : ∃ h : 0 < b.size, b[b.size - 1].toNat = 48
      · obtain ⟨h0, h1⟩ := hlb
        have h1 : ((b[b.size - 1].toNat : Int) == 48) = true := by rw [beq_iff_eq]; omega
        by_cases g0 : 0 < a.size
        · have g1 : ((a[0].toNat : Int) == 48) = false := by rw [beq_eq_false_iff_ne]; intro e; exact hla ⟨g0, by omega⟩
          clear hla
          go_enter Try.func5, Try.ntmps5
          go_wp2_with (go_at_call 9; refine (digits_any _ _ (by assumption)).mono ?_; rintro e w' ⟨rfl, rfl⟩)
          go_ret
          exact ⟨⟨false, rfl, fun h => by simp at h⟩, rfl⟩
        · clear hla
          go_enter Try.func5, Try.ntmps5
          go_wp2_with (go_at_call 9; refine (digits_any _ _ (by assumption)).mono ?_; rintro e w' ⟨rfl, rfl⟩)
          go_ret
          exact ⟨⟨false, rfl, fun h => by simp at h⟩, rfl⟩
      have HC : Hid ((n = true → ¬ (a.size = 0 ∧ b.size = 0)) → Canon n a b) := fun hn =>
        { da := hA, db := hB, la := fun h e => hla ⟨h, e⟩, lb := fun h e => hlb ⟨h, e⟩, nz := hn }
      have HA : Hid (∀ h : 0 < a.size, ((a[0].toNat : Int) == 48) = false) := fun h => by rw [beq_eq_false_iff_ne]; intro e; exact hla ⟨h, by omega⟩
      have HB : Hid (∀ h : 0 < b.size, ((b[b.size - 1].toNat : Int) == 48) = false) := fun h => by rw [beq_eq_false_iff_ne]; intro e; exact hlb ⟨h, by omega⟩
      clear hla hlb
      by_cases ga : 0 < a.size
      · have fa := HA.out ga
        have ea := notEmpty ga
        by_cases gb : 0 < b.size
        · have fb := HB.out gb
          have eb := notEmpty gb
          cases n
          all_goals
            go_enter Try.func5, Try.ntmps5
            go_wp2_with (go_at_call 9; refine (digits_any _ _ (by assumption)).mono ?_; rintro e w' ⟨rfl, rfl⟩)
            go_ret
            exact ⟨⟨true, rfl, fun _ => HC.out fun _ h => by omega⟩, rfl⟩
        · have eb := isEmpty_of (x := b) (by omega)
          cases n
          all_goals
            go_enter Try.func5, Try.ntmps5
            go_wp2_with (go_at_call 9; refine (digits_any _ _ (by assumption)).mono ?_; rintro e w' ⟨rfl, rfl⟩)
            go_ret
            exact ⟨⟨true, rfl, fun _ => HC.out fun _ h => by omega⟩, rfl⟩
      · have ea := isEmpty_of (x := a) (by omega)
        by_cases gb : 0 < b.size
        · have fb := HB.out gb
          have eb := notEmpty gb
          cases n
          all_goals
            go_enter Try.func5, Try.ntmps5
            go_wp2_with (go_at_call 9; refine (digits_any _ _ (by assumption)).mono ?_; rintro e w' ⟨rfl, rfl⟩)
            go_ret
            exact ⟨⟨true, rfl, fun _ => HC.out fun _ h => by omega⟩, rfl⟩
        · have eb := isEmpty_of (x := b) (by omega)
          cases n
          · go_enter Try.func5, Try.ntmps5
            go_wp2_with (go_at_call 9; refine (digits_any _ _ (by assumption)).mono ?_; rintro e w' ⟨rfl, rfl⟩)
            go_ret
            exact ⟨⟨true, rfl, fun _ => HC.out fun h => by simp at h⟩, rfl⟩
          · go_enter Try.func5, Try.ntmps5
            go_wp2_with (go_at_call 9; refine (digits_any _ _ (by assumption)).mono ?_; rintro e w' ⟨rfl, rfl⟩)
            go_ret
            exact ⟨⟨false, rfl, fun h => by simp at h⟩, rfl⟩
    · simp only [Bool.not_eq_true] at hB
      go_enter Try.func5, Try.ntmps5
      go_wp2_with (go_at_call 9; refine (digits_any _ _ (by assumption)).mono ?_; rintro e w' ⟨rfl, rfl⟩)
      go_ret
      exact ⟨⟨false, rfl, fun h => by simp at h⟩, rfl⟩
  · simp only [Bool.not_eq_true] at hA
    go_enter Try.func5, Try.ntmps5
    go_wp2_with (go_at_call 9; refine (digits_any _ _ (by assumption)).mono ?_; rintro e w' ⟨rfl, rfl⟩)
    go_ret
    exact ⟨⟨false, rfl, fun h => by simp at h⟩, rfl⟩
end Go.Proofs.Qxb6601758a
