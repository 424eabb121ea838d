import Derived.Test.Qxb6601799aBase
import Derived.Deep.Strs
import Derived.OpenShut
namespace Go.Proofs.Qxb6601799a
open Go.ChangeShapes Go.WideShapes Go.ChangeAt Go.RowKit Go.Deep

theorem Try.cells25 : Try.prog.cellsOf 25 = 2 := by kernel_rfl
theorem Try.cells21 : Try.prog.cellsOf 21 = 1 := by kernel_rfl
theorem Try.cells4 : Try.prog.cellsOf 4 = 1 := by kernel_rfl

/-- A script of steps as it lies in memory. -/
structure ScriptAt (w : World) (A : Option Addr) (m b off : Nat) (T : Nat → Int) (W : Nat → Bool) : Prop where
  at0 : 0 < m → A = some ⟨b, off, none⟩
  txn : ∀ i, i < m → w.cell? ⟨b, off + i * 2, none⟩ = some (.int .i32 (T i))
  write : ∀ i, i < m → w.cell? ⟨b, off + i * 2 + 1, none⟩ = some (.bool (W i))
  range : ∀ i, i < m → -2147483648 ≤ T i ∧ T i ≤ 2147483647
  low : 0 < m → b < w.heap.size
  len : m ≤ maxLen

theorem open_script {H : Type} {enc : TypeId × Value → H} {W : World} {fuel : Nat} {A : Option Addr} {len cap : Nat} {x : DataW H × List MemPlace}
    (hf : DataW.trod enc Try.prog W 0 (fun _ => true) true fuel 22 (Value.slice A len cap).cells.toList = some x) :
    ∃ b off T U, ScriptAt W A len b off T U := by
  rcases open_slice Try.underlying22 hf with ⟨hcs, _⟩ | ⟨a, len', cap', m, n, D, Pl, hcs, _, hl, hm, hmm, _, hx⟩
  · simp [Value.cells] at hcs
    obtain ⟨rfl, rfl, rfl⟩ := hcs
    exact ⟨0, 0, fun _ => 0, fun _ => false, ⟨fun h => by omega, fun i h => by omega, fun i h => by omega, fun i h => by omega, fun h => by omega, by unfold maxLen; omega⟩⟩
  · simp [Value.cells] at hcs
    obtain ⟨rfl, rfl, rfl⟩ := hcs
    simp only [if_true] at hmm
    subst hmm
    have each : ∀ i, i < len → ∃ v : Int × Bool, (W.cell? (a.add (i * 2)) = some (.int .i32 v.1) ∧ W.cell? ((a.add (i * 2)).add 1) = some (.bool v.2)) ∧ (Lit.int .i32 v.1).wf = true := by
      intro i hi
      obtain ⟨cs', h1, h2⟩ := hx i (by omega)
      rw [Try.cells25] at h1
      obtain ⟨_, hlen, hcc⟩ := World.cells?_some h1
      obtain ⟨y0, y1, n', _, _, t0, t1⟩ := trod_struct2 Try.underlying25 h2
      match cs', hlen with
      | [c0, c1], _ =>
        simp [Try.cells21, Try.cells4] at t0 t1
        obtain ⟨z0, e0, _, hw⟩ := DataW.trod_int Try.underlying21 t0
        obtain ⟨z1, e1, _⟩ := DataW.trod_bool Try.underlying4 t1
        simp at e0 e1
        subst e0 e1
        refine ⟨(z0, z1), ⟨?_, ?_⟩, hw⟩
        · have := hcc 0 (by omega)
          simpa [Addr.add] using this
        · simpa using hcc 1 (by omega)
    obtain ⟨f, hfv⟩ := choose_lt each
    obtain ⟨b, off, spot⟩ := a
    have hspot : 0 < len → spot = none := fun h => by
      have := World.cell?_spot (hfv 0 h).1.1
      simpa [Addr.add] using this
    refine ⟨b, off, fun i => (f i).1, fun i => (f i).2, ⟨fun h => by rw [hspot h], fun i h => ?_, fun i h => ?_, fun i h => bounds_i32 (hfv i h).2, fun h => ?_, by omega⟩⟩
    · have hs := hspot (by omega)
      subst hs
      rw [← add_plain]
      exact (hfv i h).1.1
    · have hs := hspot (by omega)
      subst hs
      have := (hfv i h).1.2
      rwa [add_plain, add_plain] at this
    · have := World.block_lt_of_cell? _ _ (hfv 0 h).1.1
      simpa [Addr.add] using this

set_option maxRecDepth 100000 in
theorem bytes5_contract (N : Int) (A : Option Addr) (m c : Nat) (hm : m ≤ maxLen) (w : World) : Calls Try.prog 5 #[.int .i64 N, .slice A m c] w fun e w' => e = .returned (.bool (decide (m ≤ 1048576))) ∧ w' = w := by
  unfold maxLen at hm
  by_cases h : m ≤ 1048576
  · go_enter Try.func5, Try.ntmps5
    go_wp2
    go_ret
    exact ⟨by simp [h], rfl⟩
  · have h1 : decide ((1048576 : Int) < (m : Int)) = true := decide_eq_true (by omega)
    go_enter Try.func5, Try.ntmps5
    go_wp2
    go_ret
    exact ⟨by simp [h], rfl⟩

set_option maxRecDepth 100000 in
theorem bytes15_contract (N : Int) (A : Option Addr) (m c : Nat) (hm : m ≤ maxLen) (w : World) : Calls Try.prog 15 #[.int .i64 N, .slice A m c] w fun e w' => e = .returned (.bool (decide (m ≤ 1048576))) ∧ w' = w := by
  unfold maxLen at hm
  by_cases h : m ≤ 1048576
  · go_enter Try.func15, Try.ntmps15
    go_wp2
    go_ret
    exact ⟨by simp [h], rfl⟩
  · have h1 : decide ((1048576 : Int) < (m : Int)) = true := decide_eq_true (by omega)
    go_enter Try.func15, Try.ntmps15
    go_wp2
    go_ret
    exact ⟨by simp [h], rfl⟩
end Go.Proofs.Qxb6601799a
