import Derived.Test.Qxb6601772aClone
namespace Go.Proofs.Qxb6601772a
open Go.ChangeShapes Go.WideShapes Go.ChangeAt Go.RowKit

/-- what is known of a slice of ints -/
structure IntsAt (w : World) (A : Option Addr) (n b off : Nat) (f : Nat → Int) : Prop where
  at0 : 0 < n → A = some ⟨b, off, none⟩
  cell : ∀ i, i < n → w.cell? ⟨b, off + i, none⟩ = some (.int .i64 (f i))

theorem IntsAt.drewN {w : World} {A : Option Addr} {n b off : Nat} {f : Nat → Int} (h : IntsAt w A n b off f) (m : Nat) : IntsAt (w.drewN m) A n b off f :=
  ⟨h.at0, fun i hi => by rw [← h.cell i hi]; simp⟩

theorem IntsAt.below {w w' : World} {B : Nat} {A : Option Addr} {n b off : Nat} {f : Nat → Int} (h : IntsAt w A n b off f) (hb : Below B w w') (hB : 0 < n → b < B) : IntsAt w' A n b off f :=
  ⟨h.at0, fun i hi => (hb.cell (hB (by omega))).trans (h.cell i hi)⟩

set_option maxHeartbeats 800000 in
theorem equal16 (A A2 : Option Addr) (n c c2 b off b2 off2 : Nat) (f : Nat → Int) (w : World) (h1 : IntsAt w A n b off f) (h2 : IntsAt w A2 n b2 off2 f) (hN : A.isNone = A2.isNone) (hn : n ≤ 1048576) :
    Calls Try.prog 16 #[.slice A n c, .slice A2 n c2] w fun e w' => e = .returned (.bool true) ∧ ∃ m, w' = w.drewN m := by
  have heq := fun w => Lib.run_eql_slice_nil (P := Try.prog) w 22 3 A n c 0 0 Try.underlying22
  have heq2 := fun w => Lib.run_eql_slice_nil (P := Try.prog) w 22 3 A2 n c2 0 0 Try.underlying22
  have H1 := hid h1
  have H2 := hid h2
  clear h1 h2
  go_enter Try.func16, Try.ntmps16
  go_wp2
  go_loopw [5] (fun i wr => ∃ k m : Nat, k ≤ n ∧ i = .int .i64 k ∧ wr = w.drewN m) (fun i _ => n - (intOf i).toNat)
  case atStart => exact ⟨0, 0, Nat.zero_le _, rfl, rfl⟩
  case round =>
    obtain ⟨k, m, hk, rfl, rfl⟩ := hrel
    by_cases hlt : k < n
    · have hix := fun w => run_indexAt_any (P := Try.prog) 22 3 A n c b off 1 Try.underlying22 size3 H1.out.at0 k hlt w
      have hix2 := fun w => run_indexAt_any (P := Try.prog) 22 3 A2 n c2 b2 off2 1 Try.underlying22 size3 H2.out.at0 k hlt w
      have hc := H1.out.cell k hlt
      have hc2 := H2.out.cell k hlt
      go_wp2
      go_quiet (fail)
      go_wp2
      go_roundw
      case rel => exact ⟨k + 1, _, by omega, by go_num, rfl⟩
      case measure => simp [intOf]; omega
    · go_wp2
      go_ret
      exact ⟨rfl, m, rfl⟩
end Go.Proofs.Qxb6601772a
