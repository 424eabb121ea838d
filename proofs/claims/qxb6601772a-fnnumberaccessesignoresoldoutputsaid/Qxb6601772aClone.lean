import Derived.Test.Qxb6601772aBytes
namespace Go.Proofs.Qxb6601772a
open Go.ChangeShapes Go.WideShapes Go.ChangeAt Go.RowKit

theorem Try.info9 : (Try.prog.info? 9).map (fun i => (i.zero, i.size, i.bytes)) = some (some (.string ⟨#[]⟩), 1, 16) := by kernel_rfl
theorem Try.info3 : (Try.prog.info? 3).map (fun i => (i.zero, i.size, i.bytes)) = some (some (.int .i64 0), 1, 8) := by kernel_rfl
theorem Try.info40 : (Try.prog.info? 40).map (fun i => (i.zero, i.size, i.bytes)) = some (some (.int .u64 0), 1, 8) := by kernel_rfl

/-- What a clone is. -/
def Cloned (w : World) (A : Option Addr) (n : Nat) (t : TypeId) (f : Nat → Value) (e : Ending) (w' : World) : Prop :=
  ∃ (A' : Option Addr) (b' : Nat), e = .returned (.slice A' n n) ∧ (0 < n → A' = some ⟨b', 0, none⟩ ∧ w'.rowIs b' t n f ∧ w.heap.size ≤ b') ∧ A'.isNone = A.isNone ∧ Below w.heap.size w w'

set_option maxHeartbeats 800000 in
theorem clone18 (A : Option Addr) (n c b off : Nat) (S : Nat → ByteArray) (w : World) (hK : KeysAt w A n b off S) (hnil : A = none → n = 0) (hn : n ≤ 1048576) :
    Calls Try.prog 18 #[.slice A n c] w (Cloned w A n 9 (fun i => .string (S i))) := by
  have heq := fun w => Lib.run_eql_slice_nil (P := Try.prog) w 38 9 A n c 0 0 Try.underlying38
  have HK := hid hK
  clear hK
  cases hA : A.isNone with
  | true =>
    have h0 : A = none := by simpa using hA
    obtain rfl := hnil h0
    have HC : Hid (Cloned w A 0 9 (fun i => .string (S i)) (.returned (.slice none 0 0)) w) := ⟨none, 0, rfl, fun h => by omega, by rw [hA]; rfl, Below.refl _ _⟩
    clear h0 hnil
    go_enter Try.func18, Try.ntmps18
    go_wp2
    go_ret
    exact HC.out
  | false =>
    have hmk := run_make_row' (P := Try.prog) 38 9 (.string ⟨#[]⟩) 16 Try.underlying38 Try.info9 rfl .i64 .i64 n (by omega) (by omega)
    clear hnil
    go_enter Try.func18, Try.ntmps18
    go_wp2
    go_loopw [4] (fun i wr => ∃ k : Nat, k ≤ n ∧ i = .int .i64 k ∧ wr.rowIs w.heap.size 9 n (fun i => if i < k then .string (S i) else .string ⟨#[]⟩) ∧ Below w.heap.size w wr) (fun i _ => n - (intOf i).toNat)
    case atStart => exact ⟨0, Nat.zero_le _, rfl, (World.rowIs_made w _ n 9).congr fun i _ => by simp, (Below.refl _ _).alloc (Nat.le_refl _) _⟩
    case round =>
      obtain ⟨k, hk, rfl, hrow, hb⟩ := hrel
      by_cases hlt : k < n
      · have hix := fun w => run_indexAt_any (P := Try.prog) 38 9 A n c b off 1 Try.underlying38 size9 HK.out.at0 k hlt w
        have hc : wr.cell? ⟨b, off + k, none⟩ = some (.string (S k)) := (hb.cell (HK.out.low (by omega))).trans (HK.out.item k hlt)
        have hc2 := hrow.cell hlt
        have hf2 := hrow.frozen k
        have HR := hid hrow
        have HB := hid hb
        clear hrow hb
        go_wp2
        go_roundw
        case rel =>
          refine ⟨k + 1, by omega, by go_num, (HR.out.set k (.string (S k))).congr fun i hi => ?_, HB.out.setCell (Nat.le_refl _) _⟩
          by_cases e : i = k
          · subst e; simp
          · have : (i < k + 1) ↔ (i < k) := by omega
            simp [e, this]
        case measure => simp [intOf]; omega
      · have HC : Hid (Cloned w A n 9 (fun i => .string (S i)) (.returned (.slice (some ⟨w.heap.size, 0, none⟩) n n)) wr) :=
          ⟨_, _, rfl, fun _ => ⟨rfl, hrow.congr fun i hi => by rw [if_pos (by omega)], Nat.le_refl _⟩, by rw [hA]; rfl, hb⟩
        clear hrow hb
        go_wp2
        go_ret
        exact HC.out
end Go.Proofs.Qxb6601772a
