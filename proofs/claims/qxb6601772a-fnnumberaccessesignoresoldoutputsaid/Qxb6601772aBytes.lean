import Derived.Test.Qxb6601772aBase
namespace Go.Proofs.Qxb6601772a
open Go.ChangeShapes Go.WideShapes Go.ChangeAt Go.RowKit

/-- what is known of 'in' -/
structure InAt (w : World) (A : Option Addr) (n b off : Nat) (K T : Nat → Int) (S : Nat → ByteArray) : Prop where
  at0 : 0 < n → A = some ⟨b, off, none⟩
  kind : ∀ i, i < n → w.cell? ⟨b, off + i * 3, none⟩ = some (.int .u8 (K i))
  txn : ∀ i, i < n → w.cell? ⟨b, off + i * 3 + 1, none⟩ = some (.int .u64 (T i))
  item : ∀ i, i < n → w.cell? ⟨b, off + i * 3 + 2, none⟩ = some (.string (S i))
  len : ∀ i, i < n → (S i).size ≤ maxLen
  low : 0 < n → b < w.heap.size
  most : n ≤ maxLen

/-- what is known of 'keys' -/
structure KeysAt (w : World) (A : Option Addr) (n b off : Nat) (S : Nat → ByteArray) : Prop where
  at0 : 0 < n → A = some ⟨b, off, none⟩
  item : ∀ i, i < n → w.cell? ⟨b, off + i, none⟩ = some (.string (S i))
  len : ∀ i, i < n → (S i).size ≤ maxLen
  low : 0 < n → b < w.heap.size
  most : n ≤ maxLen

theorem hid {p : Prop} (h : p) : Hid p := h

/-- It answers a bool. -/
def Ans (e : Ending) : Prop := ∃ r, e = .returned (.bool r)
theorem ans (r : Bool) : Ans (.returned (.bool r)) := ⟨r, rfl⟩

set_option maxHeartbeats 800000 in
theorem bytes17 (A A2 : Option Addr) (n c b off n2 c2 b2 off2 : Nat) (ht : Bool) (K T : Nat → Int) (S S2 : Nat → ByteArray) (w : World)
    (hI : InAt w A n b off K T S) (hK : KeysAt w A2 n2 b2 off2 S2) :
    Calls Try.prog 17 #[.slice A n c, .bool ht, .slice A2 n2 c2] w fun e w' => Ans e ∧ w = w' := by
  have hn := hI.most
  have hn2 := hK.most
  unfold maxLen at hn hn2
  have HI := hid hI
  have HK := hid hK
  clear hI hK
  by_cases h1 : n ≤ 1048576
  · go_enter Try.func17, Try.ntmps17
    go_wp2
    go_loop [7, 8] (fun z i => ∃ (k : Nat) (t : Int), k ≤ n ∧ i = .int .i64 k ∧ z = .int .i64 t ∧ 0 ≤ t ∧ t ≤ 1048576) (fun _ i => n - (intOf i).toNat)
    case atStart => exact ⟨0, _, Nat.zero_le _, rfl, rfl, by omega, by omega⟩
    case round =>
      obtain ⟨k, t, hk, rfl, rfl, ht0, ht1⟩ := hrel
      by_cases hlt : k < n
      · have hix := fun w => run_indexAt_any (P := Try.prog) 37 42 A n c b off 3 Try.underlying37 size42 HI.out.at0 k hlt w
        have hc := HI.out.item k hlt
        have hs := HI.out.len k hlt
        unfold maxLen at hs
        go_wp2
        · go_ret
          exact ⟨ans _, rfl⟩
        · go_ret
          exact ⟨ans _, rfl⟩
        · go_round
          case rel => exact ⟨k + 1, _, by omega, by go_num, rfl, by omega, by omega⟩
          case measure => simp [intOf]; omega
      · by_cases h2 : n2 ≤ 1048576
        · by_cases h3 : t + n2 ≤ 1048576
          · go_wp2
            go_loop [7, 9] (fun z i => ∃ (k : Nat) (t : Int), k ≤ n2 ∧ i = .int .i64 k ∧ z = .int .i64 t ∧ 0 ≤ t ∧ t ≤ 1048576) (fun _ i => n2 - (intOf i).toNat)
            case atStart => exact ⟨0, _, Nat.zero_le _, rfl, rfl, by omega, by omega⟩
            case round =>
              clear ht0 ht1 h3
              obtain ⟨k2, t2, hk2, rfl, rfl, ht0, ht1⟩ := hrel
              by_cases hlt2 : k2 < n2
              · have hix := fun w => run_indexAt_any (P := Try.prog) 38 9 A2 n2 c2 b2 off2 1 Try.underlying38 size9 HK.out.at0 k2 hlt2 w
                have hc := HK.out.item k2 hlt2
                have hs := HK.out.len k2 hlt2
                unfold maxLen at hs
                go_wp2
                · go_ret
                  exact ⟨ans _, rfl⟩
                · go_ret
                  exact ⟨ans _, rfl⟩
                · go_round
                  case rel => exact ⟨k2 + 1, _, by omega, by go_num, rfl, by omega, by omega⟩
                  case measure => simp [intOf]; omega
              · go_wp2
                go_ret
                exact ⟨ans _, rfl⟩
          · go_wp2
            go_ret
            exact ⟨ans _, rfl⟩
        · go_wp2
          go_ret
          exact ⟨ans _, rfl⟩
  · go_enter Try.func17, Try.ntmps17
    go_wp2
    go_ret
    exact ⟨ans _, rfl⟩
end Go.Proofs.Qxb6601772a
