import Derived.Test.Qxb6601772aRows
import Derived.WalkKit
import Derived.ProofKit
import Derived.ShutString
import Derived.WalkSpells
import Derived.WalkLawsBesides
import Derived.Deep.OwnRows
import Derived.Deep.LoopGhost
import Derived.Deep.QuietTactic
import Derived.BigQuiet
import Derived.BigRegion
import Derived.RegionTactic
import Derived.Maps.OwnSet
namespace Go.Proofs.Qxb6601772a
open Go.ChangeShapes Go.WideShapes Go.ChangeAt Go.RowKit

theorem Try.cells42 : Try.prog.cellsOf 42 = 3 := by kernel_rfl
theorem Try.cells46 : Try.prog.cellsOf 46 = 3 := by kernel_rfl
theorem Try.cells9 : Try.prog.cellsOf 9 = 1 := by kernel_rfl
theorem Try.cells3 : Try.prog.cellsOf 3 = 1 := by kernel_rfl
theorem Try.cells40 : Try.prog.cellsOf 40 = 1 := by kernel_rfl

/-- An index into a slice, its address whatever where it is empty. -/
theorem run_indexAt_any {P : Program} (t e : TypeId) (A : Option Addr) (n c b off s : Nat) (ht : P.underlying t = some (.slice e)) (hs : ∀ w : World, (sizeOf e).run P w = .ok s w)
    (hA : 0 < n → A = some ⟨b, off, none⟩) (k : Nat) (hk : k < n) (w : World) :
    (Instr.indexAt t (.slice A n c) (.int .i64 (k : Int))).run P w = .ok (.pointer (some ⟨b, off + k * s, none⟩)) w := by
  have he : P.elem t = e := by simp [Program.elem, ht]
  rw [hA (by omega), run_indexAt_slice (h := by rw [he]; exact ht), if_pos ⟨by omega, by omega⟩, he, hs]
  simp [Result.andThen, Addr.add]

theorem size42 (w : World) : (sizeOf 42).run Try.prog w = .ok 3 w := by kernel_rfl
theorem size46 (w : World) : (sizeOf 46).run Try.prog w = .ok 3 w := by kernel_rfl
theorem size9 (w : World) : (sizeOf 9).run Try.prog w = .ok 1 w := by kernel_rfl
theorem size3 (w : World) : (sizeOf 3).run Try.prog w = .ok 1 w := by kernel_rfl
theorem size40 (w : World) : (sizeOf 40).run Try.prog w = .ok 1 w := by kernel_rfl
end Go.Proofs.Qxb6601772a
