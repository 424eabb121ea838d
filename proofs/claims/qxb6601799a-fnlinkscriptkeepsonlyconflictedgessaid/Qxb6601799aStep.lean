import Derived.Test.Qxb6601799aMem
namespace Go.Proofs.Qxb6601799a
open Go.ChangeShapes Go.WideShapes Go.ChangeAt Go.RowKit

def addE (out : Nat → List (Int × Int)) (u : Nat) (e : Int × Int) : Nat → List (Int × Int) := fun v => if v = u then out u ++ [e] else out v
def edgeIf (out : Nat → List (Int × Int)) (lw t k : Int) : Nat → List (Int × Int) := if 0 ≤ lw ∧ lw ≠ t then addE out lw.toNat (t, k) else out
def readRd (rd : List Int) (t : Int) : List Int := if rd.getLast? = some t then rd else rd ++ [t]
def rwAll (out : Nat → List (Int × Int)) (rd : List Int) (t : Int) : Nat → List (Int × Int) := rd.foldl (fun o r => if r = t then o else addE o r.toNat (t, 4)) out

def opv (pos line : Int) (t key : Int) (wr : Bool) (val : Int) (hv : Bool) : Array Value := #[.int .i64 pos, .int .i64 line, .int .i32 t, .int .i32 key, .bool wr, .int .i64 val, .bool hv]

section
variable {B : Nat} {w0 wc : World} {GB wb kb n : Nat} {V : Nat → Value} {RV : Value} {lw : Int} {rd : List Int} {out : Nat → List (Int × Int)} {A : Option Addr} {g cap : Nat}

/-- THE APPEND OF ONE EDGE, told ahead of the walk: its run, what the world behind it holds, and the graph once its value is stored. -/
theorem edge_run (h : LM B w0 wc GB wb kb n V RV lw rd out) {l ob : Nat} (hln : l < n) (t k : Int) (hbl : (out l).length ≤ 1073741824) {oc : Array Value} {v2 : Value}
    (hob : wc.heap[ob]? = some (.cells oc 52 (0, 0))) (ho2 : oc[2]? = some v2) :
    ∃ gg cap w1, (Builtin.append_ #[53, 53] 53 #[V l, .slice (some ⟨wc.heap.size, 0, none⟩) 1 1]).run Try.prog (wc.alloc (.cells #[.int .i32 t, .int .u8 k] 55)).drew = .ok (.slice (some ⟨gg, 0, none⟩) ((out l).length + 1) cap) w1 ∧
      w1.cell? ⟨GB, l, none⟩ = some (V l) ∧ w1.frozen? ⟨GB, l, none⟩ = false ∧ w1.cell? ⟨wb, 4, none⟩ = some (.slice (some ⟨GB, 0, none⟩) n n) ∧ w1.cell? ⟨kb, 9, none⟩ = some (.int .i32 lw) ∧ w1.cell? ⟨ob, 2, none⟩ = some v2 ∧
      Hid ((∃ V', LM B w0 (w1.setCell ⟨GB, l, none⟩ (.slice (some ⟨gg, 0, none⟩) ((out l).length + 1) cap)) GB wb kb n V' RV lw rd (addE out l (t, k))) ∧
        Kept wc (w1.setCell ⟨GB, l, none⟩ (.slice (some ⟨gg, 0, none⟩) ((out l).length + 1) cap))) := by
  obtain ⟨i0, hi0, hz0, hz1, hz2⟩ := info_parts Try.info55
  have hB := h.hGB
  have hgl := h.glt
  have hG : LM B w0 (wc.alloc (.cells #[.int .i32 t, .int .u8 k] 55)).drew GB wb kb n V RV lw rd out := (h.alloc _).drew
  obtain ⟨gg, cap, w1, hrun, hown1, hgrow, hat, hlt⟩ := run_append_lies (P := Try.prog) (wc.alloc (.cells #[.int .i32 t, .int .u8 k] 55)).drew 53 53 B 55 i0 _ 2 8 Try.underlying53 hi0 hz0 hz1 hz2 rfl (by omega) (V l) (out l).length (ecells (out l)) (hG.own l hln)
    ⟨wc.heap.size, 0, none⟩ 1 1 [.int .i32 t, .int .u8 k] (by rfl) (World.news_of_block (cs := #[.int .i32 t, .int .u8 k]) (t := 55) (fr := (0, 0)) (heap_alloc_new wc _)) (by simp [Value.oneCell'])
    (by omega) (by simp [maxLen]; omega) (by omega) (by simp; omega) (wc.heap.size + 1) (by simp)
  have far : ∀ {b : Nat} {x : Array Value} {s : TypeId} {f : Nat × Nat}, wc.heap[b]? = some (.cells x s f) → s ≠ 55 → w1.heap[b]? = wc.heap[b]? := by
    intro b x s f hb hs
    have hlt := (Array.getElem?_eq_some_iff.1 hb).1
    have h1 : (wc.alloc (.cells #[.int .i32 t, .int .u8 k] 55)).drew.heap[b]? = wc.heap[b]? := Below.heap_alloc wc _ b hlt
    rw [← h1]
    refine hgrow.block b (Array.getElem?_eq_some_iff.1 (h1.trans hb)).1 ?_
    intro e
    obtain ⟨c, hc⟩ := hG.ebox hln e.symm
    exact hG.ne_of_type (h1.trans hb) hc hs rfl
  obtain ⟨gc, hgb⟩ := h.gbox
  refine ⟨gg, cap, w1, hrun, ?_, ?_, ?_, ?_, ?_, ⟨⟨_, hG.addEdge hln (e := (t, k)) rfl hown1 hgrow ?_⟩, ?_⟩⟩
  · exact (World.cell?_of_block (far hgb (by decide))).trans (h.graph.cell hln)
  · exact (World.frozen?_of_block (far hgb (by decide))).trans (h.graph.frozen l)
  · exact (World.cell?_of_block (far h.wbox (by decide))).trans (h.wcell 4 _ rfl)
  · exact (World.cell?_of_block (far h.kbox (by decide))).trans (h.kcell 9 _ rfl)
  · refine (World.cell?_of_block (far hob (by decide))).trans ?_
    rw [cell_of_row wc ob 2 _ _ _ hob]; exact ho2
  · rcases hat with hat | hat
    · exact .inl hat
    · exact .inr (by subst hat; simp)
  · exact (Kept.trans (((Kept.refl wc).alloc _).drew) (hG.addEdge_kept hln _ hgrow))

/-- THE APPEND OF ONE READER, told ahead of the walk. -/
theorem reader_run (h : LM B w0 wc GB wb kb n V RV lw rd out) {ob : Nat} (t : Int) (hbl : rd.length ≤ 1073741824) {oc : Array Value} {v2 : Value}
    (hob : wc.heap[ob]? = some (.cells oc 52 (0, 0))) (ho2 : oc[2]? = some v2) :
    ∃ gg cap w1, (Builtin.append_ #[47, 47] 47 #[RV, .slice (some ⟨wc.heap.size, 0, none⟩) 1 1]).run Try.prog (wc.alloc (.cells #[.int .i32 t] 21)).drew = .ok (.slice (some ⟨gg, 0, none⟩) (rd.length + 1) cap) w1 ∧
      w1.cell? ⟨kb, 10, none⟩ = some RV ∧ w1.frozen? ⟨kb, 10, none⟩ = false ∧ w1.cell? ⟨ob, 2, none⟩ = some v2 ∧
      Hid (LM B w0 (w1.setCell ⟨kb, 10, none⟩ (.slice (some ⟨gg, 0, none⟩) (rd.length + 1) cap)) GB wb kb n V (.slice (some ⟨gg, 0, none⟩) (rd.length + 1) cap) lw (rd ++ [t]) out ∧
        Kept wc (w1.setCell ⟨kb, 10, none⟩ (.slice (some ⟨gg, 0, none⟩) (rd.length + 1) cap))) := by
  obtain ⟨i0, hi0, hz0, hz1, hz2⟩ := info_parts Try.info21
  have hB := h.hkb
  have hgl := h.klt
  have hG : LM B w0 (wc.alloc (.cells #[.int .i32 t] 21)).drew GB wb kb n V RV lw rd out := (h.alloc _).drew
  obtain ⟨gg, cap, w1, hrun, hown1, hgrow, hat, hlt⟩ := run_append_lies (P := Try.prog) (wc.alloc (.cells #[.int .i32 t] 21)).drew 47 47 B 21 i0 _ 1 4 Try.underlying47 hi0 hz0 hz1 hz2 rfl (by omega) RV rd.length (rd.map (Value.int .i32)) hG.rown
    ⟨wc.heap.size, 0, none⟩ 1 1 [.int .i32 t] (by rfl) (World.news_of_block (cs := #[.int .i32 t]) (t := 21) (fr := (0, 0)) (heap_alloc_new wc _)) (by simp [Value.oneCell'])
    (by omega) (by simp [maxLen]; omega) (by omega) (by simp; omega) (wc.heap.size + 1) (by simp)
  have far : ∀ {b : Nat} {x : Array Value} {s : TypeId} {f : Nat × Nat}, wc.heap[b]? = some (.cells x s f) → s ≠ 21 → w1.heap[b]? = wc.heap[b]? := by
    intro b x s f hb hs
    have hlt := (Array.getElem?_eq_some_iff.1 hb).1
    have h1 : (wc.alloc (.cells #[.int .i32 t] 21)).drew.heap[b]? = wc.heap[b]? := Below.heap_alloc wc _ b hlt
    rw [← h1]
    refine hgrow.block b (Array.getElem?_eq_some_iff.1 (h1.trans hb)).1 ?_
    intro e
    obtain ⟨c, hc⟩ := hG.rbox e.symm
    exact hG.ne_of_type (h1.trans hb) hc hs rfl
  refine ⟨gg, cap, w1, hrun, ?_, ?_, ?_, ⟨hG.setKey hgrow ?_ lw 10 _ rfl, ?_⟩⟩
  · exact (World.cell?_of_block (far h.kbox (by decide))).trans (h.kcell 10 _ rfl)
  · exact (World.frozen?_of_block (far h.kbox (by decide))).trans (h.kfrozen 10)
  · refine (World.cell?_of_block (far hob (by decide))).trans ?_
    rw [cell_of_row wc ob 2 _ _ _ hob]; exact ho2
  · simpa using hown1
  · exact (Kept.trans (((Kept.refl wc).alloc _).drew) (hG.setKey_kept hgrow 10 _))

/-- The readers' slice: its form, and its cells. -/
theorem LM.readers (h : LM B w0 wc GB wb kb n V RV lw rd out) : ∃ A g cap, RV = .slice A rd.length cap ∧ (A = none ∧ rd = [] ∧ cap = 0 ∨ A = some ⟨g, 0, none⟩) := by
  rcases h.rown.2 with ⟨rfl, h0⟩ | ⟨g, cap, cur, rfl, _⟩
  · refine ⟨none, 0, 0, ?_, .inl ⟨rfl, List.length_eq_zero_iff.1 h0, rfl⟩⟩
    rw [h0]
  · exact ⟨_, g, cap, rfl, .inr rfl⟩

theorem LM.reader (h : LM B w0 wc GB wb kb n V (.slice (some ⟨g, 0, none⟩) rd.length cap) lw rd out) (j : Nat) (hj : j < rd.length) : wc.cell? ⟨g, j, none⟩ = some (.int .i32 (rd[j]?.getD 0)) := by
  have := h.rown.cells (g := g) rfl j (.int .i32 (rd[j]?.getD 0)) (by simp [hj])
  have hadd : (⟨g, 0, none⟩ : Addr).add j = ⟨g, j, none⟩ := by unfold Addr.add; split <;> simp_all
  rwa [hadd] at this

/-- The readers cut to none. -/
theorem LM.clear (h : LM B w0 wc GB wb kb n V (.slice A rd.length cap) lw rd out) (hA : A = none ∧ rd = [] ∧ cap = 0 ∨ A = some ⟨g, 0, none⟩) :
    LM B w0 (wc.setCell ⟨kb, 10, none⟩ (.slice A 0 cap)) GB wb kb n V (.slice A 0 cap) lw [] out ∧ Kept wc (wc.setCell ⟨kb, 10, none⟩ (.slice A 0 cap)) := by
  refine ⟨h.setKey (World.grownBy.refl _ _) ?_ lw 10 _ rfl, h.setKey_kept (World.grownBy.refl _ _) 10 _⟩
  rcases h.rown.2 with ⟨e, h0⟩ | ⟨g', cap', cur, e, hb, hg, hle, hm, hs, _⟩
  · injection e with e1 e2 e3
    subst e1 e3
    exact World.ownsRow_nil _ _ _ _
  · injection e with e1 e2 e3
    subst e1 e3
    exact ⟨by simp, .inr ⟨g', cap, cur, rfl, hb, hg, Nat.zero_le _, hm, hs, by simp⟩⟩

theorem LM.setLast (h : LM B w0 wc GB wb kb n V RV lw rd out) (t : Int) : LM B w0 (wc.setCell ⟨kb, 9, none⟩ (.int .i32 t)) GB wb kb n V RV t rd out ∧ Kept wc (wc.setCell ⟨kb, 9, none⟩ (.int .i32 t)) :=
  ⟨h.setKey (World.grownBy.refl _ _) h.rown t 9 _ rfl, h.setKey_kept (World.grownBy.refl _ _) 9 _⟩
end
end Go.Proofs.Qxb6601799a
