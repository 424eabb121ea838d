import Derived.Test.Qxb6601799aPaths
namespace Go.Proofs.Qxb6601799a
open Go.ChangeShapes Go.WideShapes Go.ChangeAt Go.RowKit

/-- make([]T, 0, n), an element of one cell -/
theorem run_make_cap {P : Program} (t e : TypeId) (z : Value) (bytes : Nat) (ht : P.underlying t = some (.slice e)) (hinfo : (P.info? e).map (fun i => (i.zero, i.size, i.bytes)) = some (some z, 1, bytes)) (hz1 : z.cells = #[z])
    (n : Nat) (hbytes : bytes * n ≤ 281474976710656) (h63 : n ≤ 9223372036854775807) (w : World) :
    (Instr.makeSlice t (.int .i64 0) (.int .i64 (n : Int))).run P w = .ok (.slice (some ⟨w.heap.size, 0, none⟩) 0 n) (w.alloc (.cells (madeCells #[z] n) e)) := by
  obtain ⟨i, hi, hzz⟩ := Option.map_eq_some_iff.1 hinfo
  simp only [Prod.mk.injEq] at hzz
  obtain ⟨hz, hs, hb⟩ := hzz
  have hb' : (i.bytes : Int) * (n : Int) ≤ 281474976710656 := by
    have h : ((i.bytes * n : Nat) : Int) ≤ 281474976710656 := by rw [hb]; omega
    rwa [Int.natCast_mul] at h
  have hr := run_make (P := P) w t e i z ht hi hz .i64 .i64 0 n (by omega) (by omega) hb' (by omega)
  simp only [Int.toNat_natCast, Int.toNat_zero, hs, hz1, Nat.mul_one] at hr
  exact hr

theorem grown_alloc {a b : World} {row : Option Nat} (h : a.grownBy b row) (o : Obj) : a.grownBy (b.alloc o) row := h.trans (World.grownBy_alloc b o row)
theorem grown_set {a b : World} {row : Option Nat} (h : a.grownBy b row) {p : Addr} (hp : row = some p.block ∨ a.heap.size ≤ p.block) (v : Value) : a.grownBy (b.setCell p v) row :=
  ⟨h.os, h.tape, h.output, by have := h.size; simpa using this, fun k hk hr => by
    rw [Below.heap_setCell b p v k (by rintro rfl; rcases hp with e | e; exact hr e.symm; omega)]
    exact h.block k hk hr⟩

section
variable {B : Nat} {w0 w w' : World} {GB wb kb n : Nat} {V : Nat → Value} {RV : Value} {lw : Int} {rd : List Int} {out : Nat → List (Int × Int)}

/-- A row of bools that is no block of the graph may change at will. -/
theorem LM.grown4 (h : LM B w0 w GB wb kb n V RV lw rd out) {sb : Nat} {c : Array Value} {fr : Nat × Nat} (hs : w.heap[sb]? = some (.cells c 4 fr)) (hB : B ≤ sb) (hg : w.grownBy w' (some sb)) : LM B w0 w' GB wb kb n V RV lw rd out := by
  obtain ⟨gc, hgb⟩ := h.gbox
  have far : ∀ {k : Nat} {x : Array Value} {t : TypeId} {f : Nat × Nat}, w.heap[k]? = some (.cells x t f) → t ≠ 4 → w'.heap[k]? = w.heap[k]? := by
    intro k x t f hk ht
    refine hg.block k (Array.getElem?_eq_some_iff.1 hk).1 ?_
    intro e
    injection e with e
    exact h.ne_of_type hk hs ht e
  refine ⟨h.hGB, h.hkb, ?_, ?_, ?_, ?_, h.apart, ?_, ?_⟩
  · rw [far h.wbox (by decide)]; exact h.wbox
  · rw [far h.kbox (by decide)]; exact h.kbox
  · exact h.graph.of_block (far hgb (by decide))
  · intro u hu
    refine (h.own u hu).kept hg ?_
    cases hb : (V u).ownBlock with
    | none => exact .inl rfl
    | some k =>
      refine .inr (fun e2 => ?_)
      injection e2 with e2
      obtain ⟨c', hc'⟩ := h.ebox hu hb
      exact h.ne_of_type hc' hs (by decide) e2
  · refine h.rown.kept hg ?_
    cases hb : RV.ownBlock with
    | none => exact .inl rfl
    | some k =>
      refine .inr (fun e2 => ?_)
      injection e2 with e2
      obtain ⟨c', hc'⟩ := h.rbox hb
      exact h.ne_of_type hc' hs (by decide) e2
  · exact h.below.grown hg (by have := h.hGB; have := h.glt; omega) (fun k e => by injection e with e; omega)

/-- How far the search has come: the queue is u and then qs; whatever stands ahead of place hh has had its edges followed. -/
structure BF (out : Nat → List (Int × Int)) (mask : Int) (n u : Nat) (qs : List Nat) (hh : Nat) : Prop where
  nodup : qs.Nodup
  lt : ∀ x ∈ qs, x < n
  closed : ∀ i x, i < hh → (u :: qs)[i]? = some x → ∀ e ∈ out x, adm e.2 mask = true → e.1.toNat ∈ qs

theorem BF.len {mask : Int} {u hh : Nat} {qs : List Nat} (h : BF out mask n u qs hh) : qs.length ≤ n := by
  have := List.Nodup.length_le_of_subset (l₂ := List.range n) h.nodup (fun x hx => List.mem_range.2 (h.lt x hx))
  simpa using this

theorem BF.push {mask : Int} {u hh v : Nat} {qs : List Nat} (h : BF out mask n u qs hh) (hv : v < n) (hn : v ∉ qs) (hh' : hh ≤ qs.length + 1) : BF out mask n u (qs ++ [v]) hh := by
  refine ⟨?_, ?_, ?_⟩
  · rw [List.nodup_append]
    refine ⟨h.nodup, by simp, ?_⟩
    intro a ha b hb
    simp at hb
    subst hb
    exact fun e => hn (e ▸ ha)
  · intro x hx
    rcases List.mem_append.1 hx with hx | hx
    · exact h.lt x hx
    · simp at hx; omega
  · intro i x hi hx e he ha
    refine List.mem_append.2 (.inl (h.closed i x hi ?_ e he ha))
    rw [← List.cons_append, List.getElem?_append_left (by simp; omega)] at hx
    exact hx

theorem BF.next {mask : Int} {u hh x : Nat} {qs : List Nat} (h : BF out mask n u qs hh) (hx : (u :: qs)[hh]? = some x) (hd : ∀ e ∈ out x, adm e.2 mask = true → e.1.toNat ∈ qs) : BF out mask n u qs (hh + 1) := by
  refine ⟨h.nodup, h.lt, ?_⟩
  intro i y hi hy e he ha
  by_cases hih : i = hh
  · subst hih
    rw [hx] at hy
    injection hy with hy
    subst hy
    exact hd e he ha
  · exact h.closed i y (by omega) hy e he ha

theorem BF.done {mask : Int} {u v : Nat} {qs : List Nat} (h : BF out mask n u qs (qs.length + 1)) (hp : Path out mask u v) : v ∈ qs := by
  refine hp.closed fun x hx e he ha => ?_
  obtain ⟨i, hi, hix⟩ := List.getElem_of_mem hx
  exact h.closed i x (by simpa using hi) (by rw [List.getElem?_eq_getElem hi, hix]) e he ha
end
end Go.Proofs.Qxb6601799a
