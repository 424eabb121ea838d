import Derived.Test.Qxb6601758aWalks
namespace Go.Proofs.Qxb6601758a
open Go.ChangeShapes Go.WideShapes Go.ChangeAt Go.RowKit

set_option maxHeartbeats 400000 in
theorem make_any (n : Bool) (a b : ByteArray) (w : World) :
    Calls Try.prog 6 #[.bool n, .string a, .string b] w fun e w' => e = .returned (.agg #[.bool n, .string a, .string b]) ∧ Grown w w' := by
  go_enter Try.func6, Try.ntmps6
  go_wp2
  exact bodyPost_ret (v := .agg #[.bool n, .string a, .string b]) (by simp [results, Try.results6, go_sem]) rfl ⟨rfl, by repeat (first | exact Grown.refl _ | apply Grown.drew | apply Grown.alloc)⟩

theorem ret_str {a b : ByteArray} (h : a = b) : Ending.returned (.string a) = .returned (.string b) := by rw [h]

set_option maxHeartbeats 800000 in
theorem string_any (n : Bool) (a b : ByteArray) (w : World) (hs : a.size + b.size ≤ 1048576) :
    Calls Try.prog 7 #[.agg #[.bool n, .string a, .string b]] w fun e w' => e = .returned (.string (text n a b)) ∧ Grown w w' := by
  by_cases ga : a.size = 0
  · have ea := isEmpty_of ga
    by_cases gb : b.size = 0
    · have eb := isEmpty_of gb
      have HF : Hid (text false a b = ⟨#[48]⟩) := by simp [Hid, text, gb, whole, ga]
      have HT : Hid (text true a b = (⟨#[45]⟩ : ByteArray) ++ ⟨#[48]⟩) := by simp [Hid, text, gb, whole, ga]
      clear ga gb
      cases n
      · go_enter Try.func7, Try.ntmps7
        go_wp2
        go_ret
        exact ⟨ret_str HF.out.symm, by repeat (first | exact Grown.refl _ | apply Grown.drew | apply Grown.alloc)⟩
      · go_enter Try.func7, Try.ntmps7
        go_wp2
        go_ret
        exact ⟨ret_str HT.out.symm, by repeat (first | exact Grown.refl _ | apply Grown.drew | apply Grown.alloc)⟩
    · have eb := notEmpty (x := b) (by omega)
      have HF : Hid (text false a b = (⟨#[48]⟩ : ByteArray) ++ ((⟨#[46]⟩ : ByteArray) ++ b)) := by simp [Hid, text, gb, pointed, whole, ga]
      have HT : Hid (text true a b = (⟨#[45]⟩ : ByteArray) ++ ((⟨#[48]⟩ : ByteArray) ++ ((⟨#[46]⟩ : ByteArray) ++ b))) := by simp [Hid, text, gb, pointed, whole, ga]
      have hb : b.size ≤ 1048576 := by omega
      clear ga gb
      cases n
      · go_enter Try.func7, Try.ntmps7
        go_wp2
        go_ret
        exact ⟨ret_str HF.out.symm, by repeat (first | exact Grown.refl _ | apply Grown.drew | apply Grown.alloc)⟩
      · go_enter Try.func7, Try.ntmps7
        go_wp2
        go_ret
        exact ⟨ret_str HT.out.symm, by repeat (first | exact Grown.refl _ | apply Grown.drew | apply Grown.alloc)⟩
  · have ea := notEmpty (x := a) (by omega)
    by_cases gb : b.size = 0
    · have eb := isEmpty_of gb
      have HF : Hid (text false a b = a) := by simp [Hid, text, gb, whole, ga]
      have HT : Hid (text true a b = (⟨#[45]⟩ : ByteArray) ++ a) := by simp [Hid, text, gb, whole, ga]
      clear ga gb
      cases n
      · go_enter Try.func7, Try.ntmps7
        go_wp2
        go_ret
        exact ⟨ret_str HF.out.symm, by repeat (first | exact Grown.refl _ | apply Grown.drew | apply Grown.alloc)⟩
      · go_enter Try.func7, Try.ntmps7
        go_wp2
        go_ret
        exact ⟨ret_str HT.out.symm, by repeat (first | exact Grown.refl _ | apply Grown.drew | apply Grown.alloc)⟩
    · have eb := notEmpty (x := b) (by omega)
      have HF : Hid (text false a b = a ++ ((⟨#[46]⟩ : ByteArray) ++ b)) := by simp [Hid, text, gb, pointed, whole, ga]
      have HT : Hid (text true a b = (⟨#[45]⟩ : ByteArray) ++ (a ++ ((⟨#[46]⟩ : ByteArray) ++ b))) := by simp [Hid, text, gb, pointed, whole, ga]
      clear ga gb
      cases n
      · go_enter Try.func7, Try.ntmps7
        go_wp2
        go_ret
        exact ⟨ret_str HF.out.symm, by repeat (first | exact Grown.refl _ | apply Grown.drew | apply Grown.alloc)⟩
      · go_enter Try.func7, Try.ntmps7
        go_wp2
        go_ret
        exact ⟨ret_str HT.out.symm, by repeat (first | exact Grown.refl _ | apply Grown.drew | apply Grown.alloc)⟩
end Go.Proofs.Qxb6601758a
