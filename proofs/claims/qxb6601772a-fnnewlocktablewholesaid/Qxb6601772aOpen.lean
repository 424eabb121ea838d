import Derived.Test.Qxb6601772aBytes
import Derived.Deep.Strs
namespace Go.Proofs.Qxb6601772a
open Go.ChangeShapes Go.WideShapes Go.ChangeAt Go.RowKit Go.Deep

theorem open_keys {H : Type} {enc : TypeId × Value → H} {W : World} {fuel : Nat} {A : Option Addr} {len cap : Nat} {x : DataW H × List MemPlace}
    (hf : DataW.trod enc Try.prog W 0 (fun _ => true) true fuel 38 (Value.slice A len cap).cells.toList = some x) :
    ∃ b off S, KeysAt W A len b off S ∧ (A = none → len = 0) := by
  rcases open_strs Try.underlying38 Try.underlying9 Try.cells9 hf with ⟨hcs, _⟩ | ⟨a, len', cap', m, Sx, hcs, _, hl, hm, hmm, _, hc⟩
  · simp [Value.cells] at hcs
    obtain ⟨rfl, rfl, rfl⟩ := hcs
    exact ⟨0, 0, fun _ => ByteArray.empty, ⟨fun h => by omega, fun i h => by omega, fun i h => by omega, fun h => by omega, by unfold maxLen; omega⟩, fun _ => rfl⟩
  · simp [Value.cells] at hcs
    obtain ⟨rfl, rfl, rfl⟩ := hcs
    simp only [if_true] at hmm
    subst hmm
    obtain ⟨b, off, spot⟩ := a
    refine ⟨b, off, Sx, ⟨fun h => ?_, fun i h => ?_, fun i h => (hc i (by omega)).2, fun h => ?_, by omega⟩, fun h => by cases h⟩
    · have := World.cell?_spot (hc 0 (by omega)).1
      simp [Addr.add] at this
      rw [this]
    · have hs := World.cell?_spot (hc 0 (by omega)).1
      simp [Addr.add] at hs
      subst hs
      rw [← add_plain]
      exact (hc i (by omega)).1
    · have := World.block_lt_of_cell? _ _ (hc 0 (by omega)).1
      simpa [Addr.add] using this

theorem open_in {H : Type} {enc : TypeId × Value → H} {W : World} {fuel : Nat} {A : Option Addr} {len cap : Nat} {x : DataW H × List MemPlace}
    (hf : DataW.trod enc Try.prog W 0 (fun _ => true) true fuel 37 (Value.slice A len cap).cells.toList = some x) :
    ∃ b off K T S, InAt W A len b off K T S ∧ ∀ i, i < len → (Lit.int .u64 (T i)).wf = true := by
  rcases open_slice Try.underlying37 hf with ⟨hcs, _⟩ | ⟨a, len', cap', m, n, D, Pl, hcs, _, hl, hm, hmm, _, hx⟩
  · simp [Value.cells] at hcs
    obtain ⟨rfl, rfl, rfl⟩ := hcs
    exact ⟨0, 0, fun _ => 0, fun _ => 0, fun _ => ByteArray.empty, ⟨fun h => by omega, fun i h => by omega, fun i h => by omega, fun i h => by omega, fun i h => by omega, fun h => by omega, by unfold maxLen; omega⟩, fun i h => by omega⟩
  · simp [Value.cells] at hcs
    obtain ⟨rfl, rfl, rfl⟩ := hcs
    simp only [if_true] at hmm
    subst hmm
    have each : ∀ i, i < len → ∃ v : Int × Int × ByteArray, (W.cell? (a.add (i * 3)) = some (.int .u8 v.1) ∧ W.cell? ((a.add (i * 3)).add 1) = some (.int .u64 v.2.1) ∧ W.cell? ((a.add (i * 3)).add 2) = some (.string v.2.2)) ∧ v.2.2.size ≤ maxLen ∧ (Lit.int .u64 v.2.1).wf = true := by
      intro i hi
      obtain ⟨cs', h1, h2⟩ := hx i (by omega)
      rw [Try.cells42] at h1
      obtain ⟨_, hlen, hcc⟩ := World.cells?_some h1
      obtain ⟨y0, y1, y2, n', _, _, t0, t1, t2⟩ := trod_struct3 Try.underlying42 h2
      match cs', hlen with
      | [c0, c1, c2], _ =>
        have hc5 : Try.prog.cellsOf 5 = 1 := by kernel_rfl
        simp [hc5, Try.cells40, Try.cells9] at t0 t1 t2
        obtain ⟨z0, e0, _, _⟩ := DataW.trod_int Try.underlying5 t0
        obtain ⟨z1, e1, _, hw⟩ := DataW.trod_int Try.underlying40 t1
        obtain ⟨s, e2, _, hs⟩ := DataW.trod_string Try.underlying9 t2
        simp at e0 e1 e2
        subst e0 e1 e2
        refine ⟨(z0, z1, s), ⟨?_, ?_, ?_⟩, hs, hw⟩
        · have := hcc 0 (by omega)
          simpa [Addr.add] using this
        · simpa using hcc 1 (by omega)
        · simpa using hcc 2 (by omega)
    obtain ⟨f, hfv⟩ := choose_lt each
    obtain ⟨b, off, spot⟩ := a
    have hspot : 0 < len → spot = none := fun h => by
      have := World.cell?_spot (hfv 0 h).1.1
      simpa [Addr.add] using this
    refine ⟨b, off, fun i => (f i).1, fun i => (f i).2.1, fun i => (f i).2.2, ⟨fun h => by rw [hspot h], fun i h => ?_, fun i h => ?_, fun i h => ?_, fun i h => (hfv i h).2.1, fun h => ?_, by omega⟩, fun i h => (hfv i h).2.2⟩
    · have hs := hspot (by omega)
      subst hs
      rw [← add_plain]
      exact (hfv i h).1.1
    · have hs := hspot (by omega)
      subst hs
      have := (hfv i h).1.2.1
      rwa [add_plain, add_plain] at this
    · have hs := hspot (by omega)
      subst hs
      have := (hfv i h).1.2.2
      rwa [add_plain, add_plain] at this
    · have := World.block_lt_of_cell? _ _ (hfv 0 h).1.1
      simpa [Addr.add] using this
end Go.Proofs.Qxb6601772a
