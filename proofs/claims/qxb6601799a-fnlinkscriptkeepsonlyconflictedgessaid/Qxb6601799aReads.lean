import Derived.Test.Qxb6601799aStep
namespace Go.Proofs.Qxb6601799a
open Go.ChangeShapes Go.WideShapes Go.ChangeAt Go.RowKit

theorem made_cells (n : Nat) : (madeCells #[Value.slice none 0 0] n) = Array.replicate n (.slice none 0 0) := by
  apply Array.ext
  · simp [madeCells]
  · intro i h1 h2; simp [madeCells, Nat.mod_one]

set_option maxRecDepth 100000 in
set_option maxHeartbeats 1600000 in
theorem newWalked_contract (n : Nat) (hn : n ≤ 65536) (w : World) :
    Calls Try.prog 6 #[.int .i64 n] w fun e w' => e = .returned (.pointer (some ⟨w.heap.size + 1, 0, none⟩)) ∧
      w' = (w.alloc (.cells (madeCells #[.slice none 0 0] n) 53)).alloc (.cells (wcells w.heap.size n) 43) := by
  have hmk := fun w => run_make_row' (P := Try.prog) 40 53 (.slice none 0 0) 24 Try.underlying40 Try.info53 rfl .i64 .i64 n (by omega) (by omega) w
  unfold wcells
  go_enter Try.func6, Try.ntmps6
  go_wp2
  go_ret
  exact ⟨by simp, by simp⟩

set_option maxRecDepth 100000 in
set_option maxHeartbeats 1600000 in
theorem newKey_contract (w : World) :
    Calls Try.prog 7 #[] w fun e w' => e = .returned (.pointer (some ⟨w.heap.size, 0, none⟩)) ∧ w' = w.alloc (.cells (kcells (-1) (.slice none 0 0)) 49) := by
  unfold kcells
  go_enter Try.func7, Try.ntmps7
  go_wp2
  go_ret
  exact ⟨by simp, by simp⟩

section
variable {B : Nat} {w0 w : World} {GB wb kb n : Nat} {V : Nat → Value} {RV : Value} {lw : Int} {rd : List Int} {out : Nat → List (Int × Int)}

theorem LM.start (w : World) (n : Nat) : LM w.heap.size w (((w.alloc (.cells (madeCells #[.slice none 0 0] n) 53)).alloc (.cells (wcells w.heap.size n) 43)).alloc (.cells (kcells (-1) (.slice none 0 0)) 49))
    w.heap.size (w.heap.size + 1) (w.heap.size + 2) n (fun _ => .slice none 0 0) (.slice none 0 0) (-1) [] (fun _ => []) := by
  refine ⟨Nat.le_refl _, by omega, ?_, ?_, ?_, fun u hu => World.ownsRow_nil _ _ _ _, fun u v hu hv huv g hg => by simp [Value.ownBlock] at hg, World.ownsRow_nil _ _ _ _, ?_⟩
  · rw [Below.heap_alloc _ _ _ (by simp)]
    have := heap_alloc_new (w.alloc (.cells (madeCells #[.slice none 0 0] n) 53)) (.cells (wcells w.heap.size n) 43)
    simpa using this
  · have := heap_alloc_new ((w.alloc (.cells (madeCells #[.slice none 0 0] n) 53)).alloc (.cells (wcells w.heap.size n) 43)) (.cells (kcells (-1) (.slice none 0 0)) 49)
    simpa using this
  · exact ((World.rowIs_made w (.slice none 0 0) n 53).alloc _).alloc _
  · exact (((Below.refl _ w).alloc (Nat.le_refl _) _).alloc (by simp) _).alloc (by simp; omega) _

set_option maxRecDepth 100000 in
theorem graphLen_contract (h : LM B w0 w GB wb kb n V RV lw rd out) : Calls Try.prog 10 #[.pointer (some ⟨wb, 0, none⟩)] w fun e w' => e = .returned (.int .i64 n) ∧ w' = w := by
  have hw4 := h.wcell 4 (.slice (some ⟨GB, 0, none⟩) n n) rfl
  clear h
  go_enter Try.func10, Try.ntmps10
  go_wp2
  go_ret
  exact ⟨rfl, rfl⟩

set_option maxRecDepth 100000 in
theorem lastWriter_contract (h : LM B w0 w GB wb kb n V RV lw rd out) : Calls Try.prog 11 #[.pointer (some ⟨kb, 0, none⟩)] w fun e w' => e = .returned (.int .i32 lw) ∧ w' = w := by
  have hk9 := h.kcell 9 (.int .i32 lw) rfl
  clear h
  go_enter Try.func11, Try.ntmps11
  go_wp2
  go_ret
  exact ⟨rfl, rfl⟩

theorem LM.edges (h : LM B w0 w GB wb kb n V RV lw rd out) {u : Nat} (hu : u < n) : ∃ A cap, V u = .slice A (out u).length cap := by
  rcases (h.own u hu).2 with ⟨e, h0⟩ | ⟨g, cap, cur, e, _⟩
  · exact ⟨none, 0, by rw [e, h0]⟩
  · exact ⟨_, cap, e⟩

set_option maxRecDepth 100000 in
theorem outLen_contract (h : LM B w0 w GB wb kb n V RV lw rd out) {u : Nat} (hu : u < n) : Calls Try.prog 12 #[.pointer (some ⟨wb, 0, none⟩), .int .i64 u] w fun e w' => e = .returned (.int .i64 (out u).length) ∧ w' = w := by
  have hw4 := h.wcell 4 (.slice (some ⟨GB, 0, none⟩) n n) rfl
  have hgc := h.graph.cell hu
  obtain ⟨A, cap, hA⟩ := h.edges hu
  rw [hA] at hgc
  clear h hA
  go_enter Try.func12, Try.ntmps12
  go_wp2
  go_ret
  exact ⟨rfl, rfl⟩

theorem LM.edge (h : LM B w0 w GB wb kb n V RV lw rd out) {u j : Nat} (hu : u < n) {e : Int × Int} (he : (out u)[j]? = some e) :
    ∃ g cap, V u = .slice (some ⟨g, 0, none⟩) (out u).length cap ∧ w.cell? ⟨g, j * 2, none⟩ = some (.int .i32 e.1) ∧ w.cell? ⟨g, j * 2 + 1, none⟩ = some (.int .u8 e.2) := by
  have hj : j < (out u).length := (List.getElem?_eq_some_iff.1 he).1
  obtain ⟨g, cap, hV, _, _⟩ := (h.own u hu).form (by omega)
  have hc := (h.own u hu).cells (g := g) (by rw [hV]; rfl)
  have hadd : ∀ i, (⟨g, 0, none⟩ : Addr).add i = ⟨g, i, none⟩ := fun i => by unfold Addr.add; split <;> simp_all
  have := ecells_get (out u) j e he
  exact ⟨g, cap, hV, by rw [← hadd]; exact hc _ _ this.1, by rw [← hadd]; exact hc _ _ this.2⟩

set_option maxRecDepth 100000 in
theorem outTo_contract (h : LM B w0 w GB wb kb n V RV lw rd out) {u j : Nat} (hu : u < n) {e : Int × Int} (he : (out u)[j]? = some e) : Calls Try.prog 13 #[.pointer (some ⟨wb, 0, none⟩), .int .i64 u, .int .i64 j] w fun x w' => x = .returned (.int .i32 e.1) ∧ w' = w := by
  have hw4 := h.wcell 4 (.slice (some ⟨GB, 0, none⟩) n n) rfl
  have hgc := h.graph.cell hu
  have hj : j < (out u).length := (List.getElem?_eq_some_iff.1 he).1
  obtain ⟨g, cap, hA, hc1, hc2⟩ := h.edge hu he
  rw [hA] at hgc
  have hc3 : w.cell? ⟨g, 0 + j * 2, none⟩ = some (.int .i32 e.1) := by simpa using hc1
  clear h hA he hc2
  go_enter Try.func13, Try.ntmps13
  go_wp2
  go_ret
  exact ⟨rfl, rfl⟩

set_option maxRecDepth 100000 in
theorem outKind_contract (h : LM B w0 w GB wb kb n V RV lw rd out) {u j : Nat} (hu : u < n) {e : Int × Int} (he : (out u)[j]? = some e) : Calls Try.prog 14 #[.pointer (some ⟨wb, 0, none⟩), .int .i64 u, .int .i64 j] w fun x w' => x = .returned (.int .u8 e.2) ∧ w' = w := by
  have hw4 := h.wcell 4 (.slice (some ⟨GB, 0, none⟩) n n) rfl
  have hgc := h.graph.cell hu
  have hj : j < (out u).length := (List.getElem?_eq_some_iff.1 he).1
  obtain ⟨g, cap, hA, hc1, hc2⟩ := h.edge hu he
  rw [hA] at hgc
  clear h hA he hc1
  go_enter Try.func14, Try.ntmps14
  go_wp2
  go_ret
  exact ⟨rfl, rfl⟩
end

/-- Which kinds a mask admits. -/
def adm (k mask : Int) : Bool := decide (k = 1) || (decide (k = 2) && decide (2 ≤ mask)) || (decide (k = 4) && decide (3 ≤ mask))

set_option maxRecDepth 100000 in
theorem admits_contract (k mask : Int) (w : World) : Calls Try.prog 18 #[.int .u8 k, .int .i64 mask] w fun x w' => x = .returned (.bool (adm k mask)) ∧ w' = w := by
  by_cases h1 : k = 1
  · subst h1
    go_enter Try.func18, Try.ntmps18
    go_wp2
    go_ret
    exact ⟨by simp [adm], rfl⟩
  · by_cases h2 : k = 2
    · subst h2
      go_enter Try.func18, Try.ntmps18
      go_wp2
      go_ret
      exact ⟨by simp [adm], rfl⟩
    · by_cases h4 : k = 4
      · subst h4
        go_enter Try.func18, Try.ntmps18
        go_wp2
        go_ret
        exact ⟨by simp [adm], rfl⟩
      · have e1 : (k == 1) = false := by simp [h1]
        have e2 : (k == 2) = false := by simp [h2]
        have e4 : (k == 4) = false := by simp [h4]
        go_enter Try.func18, Try.ntmps18
        go_wp2
        go_ret
        exact ⟨by simp [adm, h1, h2, h4], rfl⟩
end Go.Proofs.Qxb6601799a
