import Derived.Test.Qxb6601799aBase
namespace Go.Proofs.Qxb6601799a
open Go.ChangeShapes Go.WideShapes Go.ChangeAt Go.RowKit

/-- An edge's two cells: whither, and of which kind. -/
def ecell (e : Int × Int) : List Value := [.int .i32 e.1, .int .u8 e.2]
def ecells (es : List (Int × Int)) : List Value := es.flatMap ecell

theorem ecells_append (es : List (Int × Int)) (e : Int × Int) : ecells (es ++ [e]) = ecells es ++ ecell e := by simp [ecells]
theorem ecells_length (es : List (Int × Int)) : (ecells es).length = es.length * 2 := by
  induction es with
  | nil => rfl
  | cons e es ih => simp only [ecells, List.flatMap_cons, List.length_append] at ih ⊢; simp [ecell] at *; omega
theorem ecells_get (es : List (Int × Int)) (j : Nat) (e : Int × Int) (he : es[j]? = some e) : (ecells es)[j * 2]? = some (.int .i32 e.1) ∧ (ecells es)[j * 2 + 1]? = some (.int .u8 e.2) := by
  induction es generalizing j with
  | nil => simp at he
  | cons x es ih =>
    cases j with
    | zero => simp at he; subst he; simp [ecells, ecell]
    | succ j =>
      have := ih j (by simpa using he)
      have e1 : (j + 1) * 2 = j * 2 + 2 := by omega
      rw [e1]
      simpa [ecells, ecell] using this

def wcells (GB n : Nat) : Array Value := #[.slice none 0 0, .bool false, .bool false, .bool false, .slice (some ⟨GB, 0, none⟩) n n]
def kcells (lw : Int) (RV : Value) : Array Value := #[.slice none 0 0, .int .i32 0, .int .i32 0, .int .i64 0, .int .i64 0, .int .i32 0, .int .i32 0, .int .i64 0, .int .i64 0, .int .i32 lw, RV]

/-- The graph and the key's state as link builds them: all their blocks lie from B on. -/
structure LM (B : Nat) (w0 w : World) (GB wb kb n : Nat) (V : Nat → Value) (RV : Value) (lw : Int) (rd : List Int) (out : Nat → List (Int × Int)) : Prop where
  hGB : B ≤ GB
  hkb : B ≤ kb
  wbox : w.heap[wb]? = some (.cells (wcells GB n) 43 (0, 0))
  kbox : w.heap[kb]? = some (.cells (kcells lw RV) 49 (0, 0))
  graph : w.rowIs GB 53 n V
  own : ∀ u, u < n → w.ownsRow B 55 2 (V u) (out u).length (ecells (out u))
  apart : ∀ u v, u < n → v < n → u ≠ v → ∀ g, (V u).ownBlock = some g → (V v).ownBlock ≠ some g
  rown : w.ownsRow B 21 1 RV rd.length (rd.map (Value.int .i32))
  below : Below B w0 w

/-- The rows of ints, and the op's own box, are as they were. -/
def Kept (w w' : World) : Prop := ∀ (b : Nat) (c : Array Value) (t : TypeId) (fr : Nat × Nat), t = 3 ∨ t = 52 → w.heap[b]? = some (.cells c t fr) → w'.heap[b]? = some (.cells c t fr)
theorem Kept.refl (w : World) : Kept w w := fun _ _ _ _ _ h => h
theorem Kept.trans {a b c : World} (h : Kept a b) (k : Kept b c) : Kept a c := fun i x t fr ht hi => k i x t fr ht (h i x t fr ht hi)
theorem Kept.drew {a b : World} (h : Kept a b) : Kept a b.drew := h
theorem Kept.drewN {a b : World} (h : Kept a b) (m : Nat) : Kept a (b.drewN m) := h
theorem Kept.alloc {a b : World} (h : Kept a b) (o : Obj) : Kept a (b.alloc o) := fun i x t fr ht hi => by
  have := h i x t fr ht hi
  rw [Below.heap_alloc b o i (Array.getElem?_eq_some_iff.1 this).1]; exact this
theorem Kept.setCell {a b : World} (h : Kept a b) {g : Nat} {c : Array Value} {t : TypeId} {fr : Nat × Nat} (hg : b.heap[g]? = some (.cells c t fr)) (h3 : t ≠ 3) (h52 : t ≠ 52) (i : Nat) (v : Value) : Kept a (b.setCell ⟨g, i, none⟩ v) := fun j x s f hs hj => by
  have := h j x s f hs hj
  rw [Below.heap_setCell b _ v j (by intro e; simp only at e; subst e; rw [this] at hg; injection hg with hg; injection hg with _ h2; rcases hs with hs | hs <;> simp_all)]
  exact this
theorem Kept.grown {a b c : World} {row : Option Nat} (h : Kept a b) (hg : b.grownBy c row) (hr : ∀ g, row = some g → ∃ x t fr, b.heap[g]? = some (.cells x t fr) ∧ t ≠ 3 ∧ t ≠ 52) : Kept a c := fun j x s f hs hj => by
  have := h j x s f hs hj
  rw [hg.block j (Array.getElem?_eq_some_iff.1 this).1 (by
    intro e
    obtain ⟨y, t, fr, h1, h2, h4⟩ := hr j e.symm
    rw [this] at h1
    injection h1 with h1
    injection h1 with _ h3
    rcases hs with hs | hs <;> simp_all)]
  exact this

section
variable {B : Nat} {w0 w : World} {GB wb kb n : Nat} {V : Nat → Value} {RV : Value} {lw : Int} {rd : List Int} {out : Nat → List (Int × Int)}

theorem LM.wlt (h : LM B w0 w GB wb kb n V RV lw rd out) : wb < w.heap.size := (Array.getElem?_eq_some_iff.1 h.wbox).1
theorem LM.klt (h : LM B w0 w GB wb kb n V RV lw rd out) : kb < w.heap.size := (Array.getElem?_eq_some_iff.1 h.kbox).1
theorem LM.glt (h : LM B w0 w GB wb kb n V RV lw rd out) : GB < w.heap.size := h.graph.lt

theorem LM.wcell (h : LM B w0 w GB wb kb n V RV lw rd out) (i : Nat) (v : Value) (hv : (wcells GB n)[i]? = some v) : w.cell? ⟨wb, i, none⟩ = some v := by
  rw [cell_of_row w wb i _ _ _ h.wbox]; exact hv
theorem LM.kcell (h : LM B w0 w GB wb kb n V RV lw rd out) (i : Nat) (v : Value) (hv : (kcells lw RV)[i]? = some v) : w.cell? ⟨kb, i, none⟩ = some v := by
  rw [cell_of_row w kb i _ _ _ h.kbox]; exact hv
theorem LM.kfrozen (h : LM B w0 w GB wb kb n V RV lw rd out) (i : Nat) : w.frozen? ⟨kb, i, none⟩ = false := frozen_of_row w kb i _ _ h.kbox

theorem LM.drew (h : LM B w0 w GB wb kb n V RV lw rd out) : LM B w0 w.drew GB wb kb n V RV lw rd out :=
  ⟨h.hGB, h.hkb, h.wbox, h.kbox, h.graph.drew, fun u hu => (h.own u hu).drew, h.apart, h.rown.drew, h.below.drew⟩
theorem LM.drewN (h : LM B w0 w GB wb kb n V RV lw rd out) (m : Nat) : LM B w0 (w.drewN m) GB wb kb n V RV lw rd out :=
  ⟨h.hGB, h.hkb, h.wbox, h.kbox, h.graph, fun u hu => (h.own u hu), h.apart, h.rown, ⟨h.below.os, h.below.tape, h.below.output, h.below.size, h.below.block⟩⟩
theorem LM.alloc (h : LM B w0 w GB wb kb n V RV lw rd out) (o : Obj) : LM B w0 (w.alloc o) GB wb kb n V RV lw rd out :=
  ⟨h.hGB, h.hkb, by rw [Below.heap_alloc w o wb h.wlt]; exact h.wbox, by rw [Below.heap_alloc w o kb h.klt]; exact h.kbox, h.graph.alloc o, fun u hu => (h.own u hu).alloc o, h.apart, h.rown.alloc o,
    h.below.alloc (by have := h.hGB; have := h.glt; omega) o⟩

/-- Which blocks of the graph a row may be: by their types. -/
theorem LM.ne_of_type (_h : LM B w0 w GB wb kb n V RV lw rd out) {a b : Nat} {x y : Array Value} {s t : TypeId} {f g : Nat × Nat} (ha : w.heap[a]? = some (.cells x s f)) (hb : w.heap[b]? = some (.cells y t g)) (hst : s ≠ t) : a ≠ b := by
  intro e
  subst e
  rw [ha] at hb
  injection hb with hb
  injection hb with _ h2
  exact hst h2

theorem LM.gbox (h : LM B w0 w GB wb kb n V RV lw rd out) : ∃ c, w.heap[GB]? = some (.cells c 53 (0, 0)) := by
  obtain ⟨c, hb, _⟩ := h.graph
  exact ⟨c, hb⟩

theorem LM.ebox (h : LM B w0 w GB wb kb n V RV lw rd out) {u g : Nat} (hu : u < n) (hg : (V u).ownBlock = some g) : ∃ c, w.heap[g]? = some (.cells c 55 (0, 0)) := by
  rcases (h.own u hu).2 with ⟨e, _⟩ | ⟨g', cap, cur, e, _, h2, _⟩
  · rw [e] at hg; simp [Value.ownBlock] at hg
  · rw [e] at hg; simp [Value.ownBlock] at hg; subst hg; exact ⟨cur, h2⟩
theorem LM.rbox (h : LM B w0 w GB wb kb n V RV lw rd out) {g : Nat} (hg : RV.ownBlock = some g) : ∃ c, w.heap[g]? = some (.cells c 21 (0, 0)) := by
  rcases h.rown.2 with ⟨e, _⟩ | ⟨g', cap, cur, e, _, h2, _⟩
  · rw [e] at hg; simp [Value.ownBlock] at hg
  · rw [e] at hg; simp [Value.ownBlock] at hg; subst hg; exact ⟨cur, h2⟩

/-- ONE EDGE MORE: the old row of u, a new value that owns one edge more, stored in the graph. -/
theorem LM.addEdge (h : LM B w0 w GB wb kb n V RV lw rd out) {u : Nat} (hu : u < n) {e : Int × Int} {w' : World} {nv : Value} {g : Nat} (hn : nv.ownBlock = some g)
    (ho : w'.ownsRow B 55 2 nv ((out u).length + 1) (ecells (out u) ++ ecell e)) (hg : w.grownBy w' (V u).ownBlock) (hat : (V u).ownBlock = some g ∨ w.heap.size ≤ g) :
    LM B w0 (w'.setCell ⟨GB, u, none⟩ nv) GB wb kb n (fun v => if v = u then nv else V v) RV lw rd (fun v => if v = u then out u ++ [e] else out v) := by
  obtain ⟨gc, hgb⟩ := h.gbox
  have hrow : ∀ k, (V u).ownBlock = some k → ∃ c, w.heap[k]? = some (.cells c 55 (0, 0)) := fun k hk => h.ebox hu hk
  have far : ∀ {k : Nat} {x : Array Value} {t : TypeId} {f : Nat × Nat}, w.heap[k]? = some (.cells x t f) → t ≠ 55 → w'.heap[k]? = w.heap[k]? := by
    intro k x t f hk ht
    refine hg.block k (Array.getElem?_eq_some_iff.1 hk).1 ?_
    intro e
    obtain ⟨c, hc⟩ := hrow k e.symm
    exact h.ne_of_type hk hc ht rfl
  have hwG : wb ≠ GB := h.ne_of_type h.wbox hgb (by decide)
  have hkG : kb ≠ GB := h.ne_of_type h.kbox hgb (by decide)
  have hgl := h.glt
  have hgr' : w'.rowIs GB 53 n V := h.graph.of_block (far hgb (by decide))
  have hset : ∀ k, k ≠ GB → (w'.setCell ⟨GB, u, none⟩ nv).heap[k]? = w'.heap[k]? := fun k hk => heap_setCell_other w' _ k nv hk
  have hnG : nv.ownBlock ≠ some GB := by
    obtain ⟨c, fz, hc⟩ := Go.Lib.ownsRow_kind ho g hn
    intro e
    rw [hn] at e
    injection e with e
    subst e
    rw [far hgb (by decide), hgb] at hc
    injection hc with hc
    injection hc with _ h2
    exact absurd h2 (by decide)
  refine ⟨h.hGB, h.hkb, ?_, ?_, ?_, ?_, ?_, ?_, ?_⟩
  · rw [hset wb hwG, far h.wbox (by decide)]; exact h.wbox
  · rw [hset kb hkG, far h.kbox (by decide)]; exact h.kbox
  · exact hgr'.set u nv
  · intro v hv
    by_cases e1 : v = u
    · subst e1
      simp only [if_true, List.length_append, List.length_cons, List.length_nil, ecells_append]
      exact ownsRow_setCell_other ho hnG nv
    · simp only [if_neg e1]
      refine ownsRow_setCell_other ((h.own v hv).kept hg ?_) ?_ nv
      · cases hb : (V v).ownBlock with
        | none => exact .inl rfl
        | some k => exact .inr (fun e2 => h.apart u v hu hv (fun e => e1 e.symm) k e2.symm hb)
      · intro e2
        obtain ⟨c, hc⟩ := h.ebox hv e2
        exact h.ne_of_type hgb hc (by decide) rfl
  · intro a b ha hb hab k hk
    by_cases e1 : a = u
    · subst e1
      rw [if_neg (fun e => hab e.symm)]
      simp only [if_true] at hk
      rw [hn] at hk
      injection hk with hk
      subst hk
      intro hbk
      rcases hat with hat | hat
      · exact h.apart a b ha hb hab g hat hbk
      · have := ((h.own b hb).lt g hbk).2; omega
    · rw [if_neg e1] at hk
      by_cases e2 : b = u
      · subst e2
        simp only [if_true, hn]
        intro e3
        injection e3 with e3
        subst e3
        rcases hat with hat | hat
        · exact h.apart a b ha hb hab g hk hat
        · have := ((h.own a ha).lt g hk).2; omega
      · rw [if_neg e2]; exact h.apart a b ha hb hab k hk
  · refine ownsRow_setCell_other (h.rown.kept hg ?_) ?_ nv
    · cases hb : RV.ownBlock with
      | none => exact .inl rfl
      | some k =>
        refine .inr (fun e2 => ?_)
        obtain ⟨c, hc⟩ := h.rbox hb
        obtain ⟨c', hc'⟩ := h.ebox hu e2.symm
        exact h.ne_of_type hc hc' (by decide) rfl
    · intro e2
      obtain ⟨c, hc⟩ := h.rbox e2
      exact h.ne_of_type hgb hc (by decide) rfl
  · refine (h.below.trans ?_).setCell (by exact h.hGB) nv
    exact ⟨hg.os, hg.tape, hg.output, hg.size, fun k hk => hg.block k (by have := h.hGB; omega) (fun e => by have := ((h.own u hu).lt k e.symm).1; omega)⟩

theorem LM.addEdge_kept (h : LM B w0 w GB wb kb n V RV lw rd out) {u : Nat} (hu : u < n) {w' : World} (nv : Value) (hg : w.grownBy w' (V u).ownBlock) : Kept w (w'.setCell ⟨GB, u, none⟩ nv) := by
  obtain ⟨gc, hgb⟩ := h.gbox
  refine Kept.setCell (c := gc) (t := 53) (fr := (0, 0)) ((Kept.refl w).grown hg fun g e => ?_) ?_ (by decide) (by decide) u nv
  · obtain ⟨c, hc⟩ := h.ebox hu e
    exact ⟨c, 55, (0, 0), hc, by decide, by decide⟩
  · rw [hg.block GB h.glt ?_]
    · exact hgb
    · intro e
      obtain ⟨c, hc⟩ := h.ebox hu e.symm
      exact h.ne_of_type hgb hc (by decide) rfl

/-- What of the key's state is not its box may be changed at will. -/
theorem LM.setKey (h : LM B w0 w GB wb kb n V RV lw rd out) {w' : World} {RV' : Value} {rd' : List Int} (hg : w.grownBy w' RV.ownBlock) (ho : w'.ownsRow B 21 1 RV' rd'.length (rd'.map (Value.int .i32)))
    (lw' : Int) (i : Nat) (v : Value) (hv : (kcells lw RV).setIfInBounds i v = kcells lw' RV') :
    LM B w0 (w'.setCell ⟨kb, i, none⟩ v) GB wb kb n V RV' lw' rd' out := by
  obtain ⟨gc, hgb⟩ := h.gbox
  have far : ∀ {k : Nat} {x : Array Value} {t : TypeId} {f : Nat × Nat}, w.heap[k]? = some (.cells x t f) → t ≠ 21 → w'.heap[k]? = w.heap[k]? := by
    intro k x t f hk ht
    refine hg.block k (Array.getElem?_eq_some_iff.1 hk).1 ?_
    intro e
    obtain ⟨c, hc⟩ := h.rbox e.symm
    exact h.ne_of_type hk hc ht rfl
  have hwk : wb ≠ kb := h.ne_of_type h.wbox h.kbox (by decide)
  have hgk : GB ≠ kb := h.ne_of_type hgb h.kbox (by decide)
  have hk' : w'.heap[kb]? = some (.cells (kcells lw RV) 49 (0, 0)) := by rw [far h.kbox (by decide)]; exact h.kbox
  refine ⟨h.hGB, h.hkb, ?_, ?_, ?_, ?_, h.apart, ?_, ?_⟩
  · rw [Below.heap_setCell w' _ v wb hwk, far h.wbox (by decide)]; exact h.wbox
  · rw [heap_setCell_same w' kb i _ 49 v hk', hv]
  · exact (h.graph.of_block (far hgb (by decide))).setOther hgk v
  · intro u hu
    refine ownsRow_setCell_other ((h.own u hu).kept hg ?_) ?_ v
    · cases hb : (V u).ownBlock with
      | none => exact .inl rfl
      | some k =>
        refine .inr (fun e2 => ?_)
        obtain ⟨c, hc⟩ := h.rbox e2.symm
        obtain ⟨c', hc'⟩ := h.ebox hu hb
        exact h.ne_of_type hc hc' (by decide) rfl
    · intro e2
      obtain ⟨c, hc⟩ := h.ebox hu e2
      exact h.ne_of_type h.kbox hc (by decide) rfl
  · refine ownsRow_setCell_other ho ?_ v
    intro e2
    obtain ⟨c, fz, hc⟩ := Go.Lib.ownsRow_kind ho kb e2
    rw [hk'] at hc
    injection hc with hc
    injection hc with _ h2
    exact absurd h2 (by decide)
  · refine (h.below.trans ?_).setCell (by exact h.hkb) v
    exact ⟨hg.os, hg.tape, hg.output, hg.size, fun k hk => hg.block k (by have := h.hkb; have := h.klt; omega) (fun e => by have := (h.rown.lt k e.symm).1; omega)⟩

theorem LM.setKey_kept (h : LM B w0 w GB wb kb n V RV lw rd out) {w' : World} (hg : w.grownBy w' RV.ownBlock) (i : Nat) (v : Value) : Kept w (w'.setCell ⟨kb, i, none⟩ v) := by
  refine Kept.setCell (c := kcells lw RV) (t := 49) (fr := (0, 0)) ((Kept.refl w).grown hg fun g e => ?_) ?_ (by decide) (by decide) i v
  · obtain ⟨c, hc⟩ := h.rbox e
    exact ⟨c, 21, (0, 0), hc, by decide, by decide⟩
  · rw [hg.block kb h.klt ?_]
    · exact h.kbox
    · intro e
      obtain ⟨c, hc⟩ := h.rbox e.symm
      exact h.ne_of_type h.kbox hc (by decide) rfl
end
end Go.Proofs.Qxb6601799a
