import Derived.Test.Qxb6601772aEqual
import Derived.DeepKeys4
namespace Go.Proofs.Qxb6601772a
open Go.ChangeShapes Go.WideShapes Go.ChangeAt Go.RowKit Go.Maps

theorem laidOut : laidOutB Try.prog = true := by kernel_rfl
theorem row61 : (61 : TypeId) < Try.prog.types.size := of_decide_eq_true (by kernel_rfl)
theorem wide61 : (match Try.prog.underlying 61 with | some (.array _ _) | some (.struct _) => true | _ => false) = true := by kernel_rfl
theorem law61 : Keyed Try.prog 61 := Keyed.of_law (deep_law_laid laidOut (m := 3) (by omega) row61 (by kernel_rfl) wide61)
theorem zero3 (w : World) : (zeroValue 3).run Try.prog w = .ok (.int .i64 0) w := by kernel_rfl

/-- A lock's name as a key. -/
def keyVal (t : Int) (s : ByteArray) : Value := .agg #[.int .u64 t, .string s]
theorem key_reads (t : Int) (s : ByteArray) (ht : (Lit.int .u64 t).wf = true) (hs : s.size ≤ maxLen) : ∃ l, keyOf Try.prog 61 (keyVal t s) = some l := by
  unfold keyOf
  rw [Try.underlying61]
  simp only []
  have h1 : Try.prog.keyType 61 = true := by kernel_rfl
  have h2 : (keyVal t s).formed Try.prog 61 = true := by
    have hc : Try.prog.cellsOf 61 = 2 := by kernel_rfl
    simp [keyVal, Value.formed, Try.underlying61, hc]
  rw [h1, h2]
  simp only [Bool.and_self, if_true]
  obtain ⟨d, hd⟩ : ∃ d, Try.prog.types.size = d + 1 := ⟨Try.prog.types.size - 1, by have h : (61 : Nat) < Try.prog.types.size := row61; omega⟩
  have hc : Try.prog.cellsOf 61 = 2 := by kernel_rfl
  have hc40 : Try.prog.cellsOf 40 = 1 := by kernel_rfl
  have hc9 : Try.prog.cellsOf 9 = 1 := by kernel_rfl
  rw [hd]
  simp [Program.keyLits, Try.underlying61, Try.underlying40, Try.underlying9, keyVal, Value.cells, hc, hc40, hc9, ht, hs]
theorem key_inj {t t' : Int} {s s' : ByteArray} {l : Lit} (h : keyOf Try.prog 61 (keyVal t s) = some l) (h' : keyOf Try.prog 61 (keyVal t' s') = some l) : t = t' ∧ s = s' := by
  have := law61.inj h h'
  simpa [keyVal] using this
end Go.Proofs.Qxb6601772a
