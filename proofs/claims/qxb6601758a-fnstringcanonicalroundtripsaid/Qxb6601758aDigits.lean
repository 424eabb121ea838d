import Derived.Test.Qxb6601758aRows
import Derived.WalkKit
import Derived.ProofKit
import Derived.ShutString
import Derived.WalkSpells
namespace Go.Proofs.Qxb6601758a
open Go.ChangeShapes Go.WideShapes Go.ChangeAt Go.RowKit

/-- Every byte is an ASCII digit. -/
def digs (s : ByteArray) : Bool := decide (∀ k (h : k < s.size), 48 ≤ s[k].toNat ∧ s[k].toNat ≤ 57)

theorem ret_bool {a b : Bool} (h : a = b) : Ending.returned (.bool a) = .returned (.bool b) := by rw [h]

theorem digs_yes {s : ByteArray} (h : ∀ k (h : k < s.size), 48 ≤ s[k].toNat ∧ s[k].toNat ≤ 57) : digs s = true := decide_eq_true h
theorem digs_no {s : ByteArray} {k : Nat} (hk : k < s.size) (h : ¬ (48 ≤ s[k].toNat ∧ s[k].toNat ≤ 57)) : digs s = false := decide_eq_false fun g => h (g k hk)
theorem digs_at {s : ByteArray} (h : digs s = true) (k : Nat) (hk : k < s.size) : 48 ≤ s[k].toNat ∧ s[k].toNat ≤ 57 := of_decide_eq_true h k hk

set_option maxHeartbeats 400000 in
theorem digits_any (s : ByteArray) (w : World) (hs : s.size ≤ maxLen) :
    Calls Try.prog 9 #[.string s] w fun e w' => e = .returned (.bool (digs s)) ∧ w = w' := by
  unfold maxLen at hs
  go_enter Try.func9, Try.ntmps9
  go_wp2
  go_loop [3] (fun i => ∃ k : Nat, k ≤ s.size ∧ i = .int .i64 k ∧ ∀ j (h : j < s.size), j < k → 48 ≤ s[j].toNat ∧ s[j].toNat ≤ 57) (fun i => s.size - (intOf i).toNat)
  case atStart => exact ⟨0, Nat.zero_le _, rfl, fun j h hj => by omega⟩
  case round =>
    obtain ⟨k, hk, rfl, hall⟩ := hrel
    have HA : Hid (∀ j (h : j < s.size), j < k → 48 ≤ s[j].toNat ∧ s[j].toNat ≤ 57) := hall
    clear hall
    by_cases hlt : k < s.size
    · by_cases hd : 48 ≤ s[k].toNat ∧ s[k].toNat ≤ 57
      · have HK : Hid (48 ≤ s[k].toNat ∧ s[k].toNat ≤ 57) := hd
        obtain ⟨h1, h2⟩ := hd
        have h1' : (48 : Int) ≤ (s[k].toNat : Int) := by omega
        have h2' : (s[k].toNat : Int) ≤ 57 := by omega
        go_wp2
        go_round
        case rel =>
          refine ⟨k + 1, by omega, by go_num, fun j h hj => ?_⟩
          by_cases e : j = k
          · subst e; exact HK.out
          · exact HA.out j h (by omega)
        case measure => simp [intOf]; omega
      · have HN : Hid (digs s = false) := digs_no hlt hd
        have h1 : (s[k].toNat : Int) < 48 ∨ (57 : Int) < (s[k].toNat : Int) := by omega
        clear hd
        rcases h1 with h1 | h1
        · go_wp2
          go_ret
          exact ⟨ret_bool HN.out.symm, rfl⟩
        · have h2 : (48 : Int) ≤ (s[k].toNat : Int) := by omega
          go_wp2
          go_ret
          exact ⟨ret_bool HN.out.symm, rfl⟩
    · have HY : Hid (digs s = true) := digs_yes fun j h => HA.out j h (by omega)
      go_wp2
      go_ret
      exact ⟨ret_bool HY.out.symm, rfl⟩
end Go.Proofs.Qxb6601758a
