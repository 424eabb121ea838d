import Derived.Test.Qxb6602046aRows
import Derived.WalkKit
import Derived.ProofKit
import Derived.OpenShut
import Derived.ShutString
import Derived.WalkSpells
import Derived.Below
namespace Go.Proofs.Qxb6602046a
open Go.ChangeShapes Go.WideShapes Go.ChangeAt Go.RowKit

theorem hid {p : Prop} (h : p) : Hid p := h

/-- An ASCII digit. -/
def isD (c : UInt8) : Prop := 48 ≤ c.toNat ∧ c.toNat ≤ 57
instance (c : UInt8) : Decidable (isD c) := by unfold isD; infer_instance

/-- n is the length of the longest prefix of digits. -/
structure LD (s : ByteArray) (n : Nat) : Prop where
  le : n ≤ s.size
  all : ∀ i (h : i < s.size), i < n → isD s[i]
  stop : ∀ h : n < s.size, ¬ isD s[n]

set_option maxHeartbeats 400000 in
theorem isDigit_contract (c : UInt8) (w : World) : Calls Try.prog 15 #[.int .u8 (c.toNat : Int)] w fun e w' => e = .returned (.bool (decide (isD c))) ∧ w' = w := by
  by_cases h1 : 48 ≤ c.toNat
  · have d1 : decide ((48 : Int) ≤ (c.toNat : Int)) = true := decide_eq_true (by omega)
    by_cases h2 : c.toNat ≤ 57
    · have d2 : decide ((c.toNat : Int) ≤ 57) = true := decide_eq_true (by omega)
      have hd : Hid (decide (isD c) = true) := decide_eq_true ⟨h1, h2⟩
      go_enter Try.func15, Try.ntmps15
      go_wp2
      go_ret
      exact ⟨by rw [hd.out]; rfl, rfl⟩
    · have d2 : decide ((c.toNat : Int) ≤ 57) = false := decide_eq_false (by omega)
      have hd : Hid (decide (isD c) = false) := decide_eq_false fun h => h2 h.2
      go_enter Try.func15, Try.ntmps15
      go_wp2
      go_ret
      exact ⟨by rw [hd.out]; rfl, rfl⟩
  · have d1 : decide ((48 : Int) ≤ (c.toNat : Int)) = false := decide_eq_false (by omega)
    have hd : Hid (decide (isD c) = false) := decide_eq_false fun h => h1 h.1
    go_enter Try.func15, Try.ntmps15
    go_wp2
    go_ret
    exact ⟨by rw [hd.out]; rfl, rfl⟩

set_option maxRecDepth 100000 in
set_option maxHeartbeats 800000 in
theorem leading_contract (s : ByteArray) (w : World) (hs : s.size ≤ maxLen) :
    Calls Try.prog 18 #[.string s] w fun e w' => (∃ n : Nat, e = .returned (.int .i64 n) ∧ LD s n) ∧ w' = w := by
  unfold maxLen at hs
  go_enter Try.func18, Try.ntmps18
  go_wp2
  go_loop [3] (fun i => ∃ k : Nat, k ≤ s.size ∧ i = .int .i64 k ∧ ∀ j (h : j < s.size), j < k → isD s[j]) (fun i => s.size - (intOf i).toNat)
  case atStart => exact ⟨0, Nat.zero_le _, rfl, fun j h hj => by omega⟩
  case round =>
    obtain ⟨k, hk, rfl, hall⟩ := hrel
    have HA := hid hall
    clear hall
    by_cases hlt : k < s.size
    · by_cases hd : isD s[k]
      · have HK := hid hd
        obtain ⟨h1, h2⟩ := hd
        have h1' : (48 : Int) ≤ (s[k].toNat : Int) := by omega
        have h2' : (s[k].toNat : Int) ≤ 57 := by omega
        go_wp2
        go_round
        case rel =>
          refine ⟨k + 1, by omega, by go_num, fun j h hj => ?_⟩
          by_cases e : j = k
          · subst e; exact HK.out
          · exact HA.out j h (by omega)
        case measure => simp [intOf]; omega
      · have HN : Hid (LD s k) := ⟨hk, HA.out, fun _ => hd⟩
        have h1 : (s[k].toNat : Int) < 48 ∨ (57 : Int) < (s[k].toNat : Int) := by unfold isD at hd; omega
        clear hd
        rcases h1 with h1 | h1
        · go_wp2
          go_ret
          exact ⟨⟨k, rfl, HN.out⟩, rfl⟩
        · have h2 : (48 : Int) ≤ (s[k].toNat : Int) := by omega
          go_wp2
          go_ret
          exact ⟨⟨k, rfl, HN.out⟩, rfl⟩
    · have hke : s.size = k := by omega
      have HN : Hid (LD s k) := ⟨hk, HA.out, fun h => by omega⟩
      go_wp2
      go_ret
      exact ⟨⟨k, rfl, HN.out⟩, rfl⟩

theorem leading2_contract (s : ByteArray) (w : World) (hs : s.size ≤ maxLen) :
    Calls Try.prog 14 #[.string s] w fun e w' => (∃ n : Nat, e = .returned (.int .i64 n) ∧ LD s n) ∧ w' = w := by
  go_enter Try.func14, Try.ntmps14
  go_wp2_with fail
  refine (leading_contract s w hs).mono ?_
  rintro e w1 ⟨⟨n, rfl, hn⟩, hw⟩
  obtain rfl := hw.symm
  have HN := hid hn
  clear hn
  go_wp2
  go_ret
  exact ⟨⟨n, rfl, HN.out⟩, rfl⟩

theorem bytes13_contract (s : ByteArray) (w : World) (hs : s.size ≤ maxLen) : Calls Try.prog 13 #[.string s] w fun e w' => e = .returned (.bool (decide (s.size ≤ 1048576))) ∧ w' = w := by
  unfold maxLen at hs
  by_cases h : s.size ≤ 1048576
  · go_enter Try.func13, Try.ntmps13
    go_wp2
    go_ret
    exact ⟨by simp [h], rfl⟩
  · have h1 : decide ((1048576 : Int) < (s.size : Int)) = true := decide_eq_true (by omega)
    go_enter Try.func13, Try.ntmps13
    go_wp2
    go_ret
    exact ⟨by simp [h], rfl⟩

theorem bytes8_contract (s : ByteArray) (m : Int) (w : World) (hs : s.size ≤ maxLen) : Calls Try.prog 8 #[.string s, .int .i64 m] w fun e w' => e = .returned (.bool (decide (s.size ≤ 1048576))) ∧ w' = w := by
  unfold maxLen at hs
  by_cases h : s.size ≤ 1048576
  · go_enter Try.func8, Try.ntmps8
    go_wp2
    go_ret
    exact ⟨by simp [h], rfl⟩
  · have h1 : decide ((1048576 : Int) < (s.size : Int)) = true := decide_eq_true (by omega)
    go_enter Try.func8, Try.ntmps8
    go_wp2
    go_ret
    exact ⟨by simp [h], rfl⟩
end Go.Proofs.Qxb6602046a
