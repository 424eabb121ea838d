import Derived.Test.Qxb6601799aRows
import Derived.WalkKit
import Derived.ProofKit
import Derived.WalkSpells
import Derived.WalkLawsBesides
import Derived.StillTactics
import Derived.OwnWalk
import Derived.Laws.Pointers
import Derived.Deep.OwnRows
import Derived.Deep.LoopGhost
import Derived.Deep.QuietTactic
import Derived.Deep.CutRange
import Derived.Deep.CutBlock
import Derived.Deep.RegionHeld3
import Derived.Deep.AppendLies
import Derived.Deep.DrawnRows
import Derived.BigQuiet
import Derived.BigRegion
import Derived.RegionTactic
import Derived.Below
import Derived.OneCell
import Derived.Lib.OwnKind
import Derived.KernelRfl
namespace Go.Proofs.Qxb6601799a
open Go.ChangeShapes Go.WideShapes Go.ChangeAt Go.RowKit

theorem Try.info55 : (Try.prog.info? 55).map (fun i => (i.zero, i.size, i.bytes)) = some (some (.agg #[.int .i32 0, .int .u8 0]), 2, 8) := by kernel_rfl
theorem Try.info21 : (Try.prog.info? 21).map (fun i => (i.zero, i.size, i.bytes)) = some (some (.int .i32 0), 1, 4) := by kernel_rfl
theorem Try.info53 : (Try.prog.info? 53).map (fun i => (i.zero, i.size, i.bytes)) = some (some (.slice none 0 0), 1, 24) := by kernel_rfl
theorem Try.info3 : (Try.prog.info? 3).map (fun i => (i.zero, i.size, i.bytes)) = some (some (.int .i64 0), 1, 8) := by kernel_rfl
theorem Try.info4 : (Try.prog.info? 4).map (fun i => (i.zero, i.size, i.bytes)) = some (some (.bool false), 1, 1) := by kernel_rfl

/-- An index into a slice, its address whatever where it is empty. -/
theorem run_indexAt_any {P : Program} (t e : TypeId) (A : Option Addr) (n c b off s : Nat) (ht : P.underlying t = some (.slice e)) (hs : ∀ w : World, (sizeOf e).run P w = .ok s w)
    (hA : 0 < n → A = some ⟨b, off, none⟩) (k : Nat) (hk : k < n) (w : World) :
    (Instr.indexAt t (.slice A n c) (.int .i64 (k : Int))).run P w = .ok (.pointer (some ⟨b, off + k * s, none⟩)) w := by
  have he : P.elem t = e := by simp [Program.elem, ht]
  rw [hA (by omega), run_indexAt_slice (h := by rw [he]; exact ht), if_pos ⟨by omega, by omega⟩, he, hs]
  simp [Result.andThen, Addr.add]

theorem size25 (w : World) : (sizeOf 25).run Try.prog w = .ok 2 w := by kernel_rfl
theorem size55 (w : World) : (sizeOf 55).run Try.prog w = .ok 2 w := by kernel_rfl
theorem size53 (w : World) : (sizeOf 53).run Try.prog w = .ok 1 w := by kernel_rfl
theorem size21 (w : World) : (sizeOf 21).run Try.prog w = .ok 1 w := by kernel_rfl
theorem size3 (w : World) : (sizeOf 3).run Try.prog w = .ok 1 w := by kernel_rfl
theorem size4 (w : World) : (sizeOf 4).run Try.prog w = .ok 1 w := by kernel_rfl

/-- A fact kept out of the walk's sight. -/
theorem hid {p : Prop} (h : p) : Hid p := h
end Go.Proofs.Qxb6601799a
