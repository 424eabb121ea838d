import Derived.Test.Qxb6601772aNum
namespace Go.Proofs.Qxb6601772a
open Go.ChangeShapes Go.WideShapes Go.ChangeAt Go.RowKit Go.Deep

/-- append of one element where there is room, for the walk -/
theorem wpList_append_room1 {P : Program} (w : World) {ops : Array Oper} {rest : List Oper} {o : Oper} {a : Act} {Q : Exit → Act → World → Prop}
    (hg : o.guard = none) (s x : Operand) (t : TypeId) (hop : o.op = Op.call { callee := Callee.builtin Builtin.append, args := #[s, x], argTypes := #[t, t] })
    (e : TypeId) (i : TypeInfo) (h1 : P.underlying t = some (.slice e)) (h2 : P.info? e = some i) (h4 : i.size = 1)
    (b off n cap : Nat) (hs : a.eval s = .slice (some ⟨b, off, none⟩) n cap)
    (g : Nat) (v : Value) (hx : a.eval x = .slice (some ⟨g, 0, none⟩) 1 1) (hc : w.cell? ⟨g, 0, none⟩ = some v) (h1c : v.oneCell' = true) (hr : n < cap)
    (hcell : (w.cell? ⟨b, off + n, none⟩).isSome = true) (hfz : w.frozen? ⟨b, off + n, none⟩ = false)
    (hK : wpList P ops Q rest (a.put o.dst (.slice (some ⟨b, off, none⟩) (n + 1) cap)) (w.setCell ⟨b, off + n, none⟩ v)) :
    wpList P ops Q (o :: rest) a w := by
  refine wpList_plain hg fun K hK' => ?_
  have hrun := run_append_room_cells (P := P) w t o.type e i h1 h2 b off n cap ⟨g, 0, none⟩ 1 1 [v] (by simp [h4]) (fun j u hj => by
      match j, hj with
      | 0, hj => simp at hj; subst hj; simpa [Addr.add] using hc) (fun u hu => by simp at hu; subst hu; exact h1c) (by omega)
    (fun j hj => by
      obtain rfl : j = 0 := by simp at hj; omega
      simpa [h4] using hcell) (fun j hj => by
      obtain rfl : j = 0 := by simp at hj; omega
      simpa [h4] using hfz)
  rw [h4, Nat.mul_one] at hrun
  have e1 : w.setCells b (off + n) [v] = w.setCell ⟨b, off + n, none⟩ v := rfl
  rw [e1] at hrun
  unfold Oper.wp
  simp [execOp, hop, resolve, invoke, builtin, hs, hx, hrun, Result.andThen]
  exact hK' _ _ hK

/-- a row of ints -/
def intRow (f : Nat → Int) (i : Nat) : Value := .int .i64 (f i)
theorem intRow_set {w : World} {b t n : Nat} {f : Nat → Int} (h : w.rowIs b t n (intRow f)) (j : Nat) (v : Int) : (w.setCell ⟨b, j, none⟩ (.int .i64 v)).rowIs b t n (intRow (upd f j v)) :=
  (h.set j _).congr fun i hi => by
    unfold intRow upd
    by_cases e : i = j <;> simp [e]

/-- The blocks of a numbering under way. -/
structure Mem (w wr : World) (ib ALL LB TB IB XB SB : Nat) (v0 v1 v2 v6 v7 v8 v9 v10 v11 : Value) (n nt items L : Nat) (Lst : Nat → Value) (a g h l s : Nat → Int) : Prop where
  box : wr.heap[ib]? = some (.cells #[v0, v1, v2, .slice (some ⟨TB, 0, none⟩) n n, .slice (some ⟨IB, 0, none⟩) L n, .slice (some ⟨SB, 0, none⟩) (nt + 1) (nt + 1), v6, v7, v8, v9, v10, v11] 65 (0, 0))
  all : wr.rowIs ALL 3 n (intRow a)
  lists : wr.rowIs LB 22 nt Lst
  ta : wr.rowIs TB 3 n (intRow g)
  ai : wr.rowIs IB 3 n (intRow h)
  la : wr.rowIs XB 3 items (intRow l)
  st : wr.rowIs SB 3 (nt + 1) (intRow s)
  frame : w.grownBy wr (some ib)
  ord : ib < w.heap.size ∧ w.heap.size ≤ ALL ∧ ALL < LB ∧ LB < TB ∧ TB < IB ∧ IB < XB ∧ XB < SB

section
variable {w wr : World} {ib ALL LB TB IB XB SB : Nat} {v0 v1 v2 v6 v7 v8 v9 v10 v11 : Value} {n nt items L : Nat} {Lst : Nat → Value} {a g h l s : Nat → Int}

theorem Mem.cell (H : Mem w wr ib ALL LB TB IB XB SB v0 v1 v2 v6 v7 v8 v9 v10 v11 n nt items L Lst a g h l s) (i : Nat) (v : Value)
    (hv : #[v0, v1, v2, Value.slice (some ⟨TB, 0, none⟩) n n, .slice (some ⟨IB, 0, none⟩) L n, .slice (some ⟨SB, 0, none⟩) (nt + 1) (nt + 1), v6, v7, v8, v9, v10, v11][i]? = some v) : wr.cell? ⟨ib, i, none⟩ = some v := by
  simp only [World.cell?, H.box]
  exact hv
theorem Mem.frozen (H : Mem w wr ib ALL LB TB IB XB SB v0 v1 v2 v6 v7 v8 v9 v10 v11 n nt items L Lst a g h l s) (i : Nat) : wr.frozen? ⟨ib, i, none⟩ = false := by
  simp [World.frozen?, H.box]

theorem Mem.drew (H : Mem w wr ib ALL LB TB IB XB SB v0 v1 v2 v6 v7 v8 v9 v10 v11 n nt items L Lst a g h l s) : Mem w wr.drew ib ALL LB TB IB XB SB v0 v1 v2 v6 v7 v8 v9 v10 v11 n nt items L Lst a g h l s :=
  ⟨H.box, H.all, H.lists, H.ta, H.ai, H.la, H.st, ⟨H.frame.os, H.frame.tape, H.frame.output, H.frame.size, H.frame.block⟩, H.ord⟩

theorem Mem.alloc (H : Mem w wr ib ALL LB TB IB XB SB v0 v1 v2 v6 v7 v8 v9 v10 v11 n nt items L Lst a g h l s) (o : Obj) : Mem w (wr.alloc o) ib ALL LB TB IB XB SB v0 v1 v2 v6 v7 v8 v9 v10 v11 n nt items L Lst a g h l s where
  box := by rw [Below.heap_alloc _ _ _ (Array.getElem?_eq_some_iff.1 H.box).1]; exact H.box
  all := H.all.alloc o
  lists := H.lists.alloc o
  ta := H.ta.alloc o
  ai := H.ai.alloc o
  la := H.la.alloc o
  st := H.st.alloc o
  frame := H.frame.trans (World.grownBy_alloc _ _ _)
  ord := H.ord

theorem grown_set {w wr : World} {ib : Nat} (H : w.grownBy wr (some ib)) {ad : Addr} (ha : ad.block = ib ∨ w.heap.size ≤ ad.block) (v : Value) : w.grownBy (wr.setCell ad v) (some ib) :=
  ⟨H.os, H.tape, H.output, by simpa using H.size, fun k hk hne => by
    rw [Below.heap_setCell _ _ _ _ (by
      rcases ha with ha | ha
      · intro e; exact hne (by rw [e, ha])
      · omega)]
    exact H.block k hk hne⟩

theorem Mem.setTa (H : Mem w wr ib ALL LB TB IB XB SB v0 v1 v2 v6 v7 v8 v9 v10 v11 n nt items L Lst a g h l s) (j : Nat) (v : Int) : Mem w (wr.setCell ⟨TB, j, none⟩ (.int .i64 v)) ib ALL LB TB IB XB SB v0 v1 v2 v6 v7 v8 v9 v10 v11 n nt items L Lst a (upd g j v) h l s := by
  obtain ⟨o1, o2, o3, o4, o5, o6, o7⟩ := H.ord
  exact ⟨by rw [Below.heap_setCell _ _ _ _ (by simp; omega)]; exact H.box, H.all.setOther (by simp; omega) _, H.lists.setOther (by simp; omega) _, intRow_set H.ta j v, H.ai.setOther (by simp; omega) _, H.la.setOther (by simp; omega) _,
    H.st.setOther (by simp; omega) _, grown_set H.frame (Or.inr (by simp; omega)) _, H.ord⟩
theorem Mem.setLa (H : Mem w wr ib ALL LB TB IB XB SB v0 v1 v2 v6 v7 v8 v9 v10 v11 n nt items L Lst a g h l s) (j : Nat) (v : Int) : Mem w (wr.setCell ⟨XB, j, none⟩ (.int .i64 v)) ib ALL LB TB IB XB SB v0 v1 v2 v6 v7 v8 v9 v10 v11 n nt items L Lst a g h (upd l j v) s := by
  obtain ⟨o1, o2, o3, o4, o5, o6, o7⟩ := H.ord
  exact ⟨by rw [Below.heap_setCell _ _ _ _ (by simp; omega)]; exact H.box, H.all.setOther (by simp; omega) _, H.lists.setOther (by simp; omega) _, H.ta.setOther (by simp; omega) _, H.ai.setOther (by simp; omega) _, intRow_set H.la j v,
    H.st.setOther (by simp; omega) _, grown_set H.frame (Or.inr (by simp; omega)) _, H.ord⟩
theorem Mem.setSt (H : Mem w wr ib ALL LB TB IB XB SB v0 v1 v2 v6 v7 v8 v9 v10 v11 n nt items L Lst a g h l s) (j : Nat) (v : Int) : Mem w (wr.setCell ⟨SB, j, none⟩ (.int .i64 v)) ib ALL LB TB IB XB SB v0 v1 v2 v6 v7 v8 v9 v10 v11 n nt items L Lst a g h l (upd s j v) := by
  obtain ⟨o1, o2, o3, o4, o5, o6, o7⟩ := H.ord
  exact ⟨by rw [Below.heap_setCell _ _ _ _ (by simp; omega)]; exact H.box, H.all.setOther (by simp; omega) _, H.lists.setOther (by simp; omega) _, H.ta.setOther (by simp; omega) _, H.ai.setOther (by simp; omega) _, H.la.setOther (by simp; omega) _,
    intRow_set H.st j v, grown_set H.frame (Or.inr (by simp; omega)) _, H.ord⟩
theorem Mem.setAi (H : Mem w wr ib ALL LB TB IB XB SB v0 v1 v2 v6 v7 v8 v9 v10 v11 n nt items L Lst a g h l s) (j : Nat) (v : Int) : Mem w (wr.setCell ⟨IB, j, none⟩ (.int .i64 v)) ib ALL LB TB IB XB SB v0 v1 v2 v6 v7 v8 v9 v10 v11 n nt items L Lst a g (upd h j v) l s := by
  obtain ⟨o1, o2, o3, o4, o5, o6, o7⟩ := H.ord
  exact ⟨by rw [Below.heap_setCell _ _ _ _ (by simp; omega)]; exact H.box, H.all.setOther (by simp; omega) _, H.lists.setOther (by simp; omega) _, H.ta.setOther (by simp; omega) _, intRow_set H.ai j v, H.la.setOther (by simp; omega) _,
    H.st.setOther (by simp; omega) _, grown_set H.frame (Or.inr (by simp; omega)) _, H.ord⟩
/-- the longer list of items stored into its field -/
theorem Mem.setLen (H : Mem w wr ib ALL LB TB IB XB SB v0 v1 v2 v6 v7 v8 v9 v10 v11 n nt items L Lst a g h l s) (L' : Nat) : Mem w (wr.setCell ⟨ib, 4, none⟩ (.slice (some ⟨IB, 0, none⟩) L' n)) ib ALL LB TB IB XB SB v0 v1 v2 v6 v7 v8 v9 v10 v11 n nt items L' Lst a g h l s := by
  obtain ⟨o1, o2, o3, o4, o5, o6, o7⟩ := H.ord
  exact ⟨by simp [World.setCell, Array.getElem?_modify, H.box], H.all.setOther (by simp; omega) _, H.lists.setOther (by simp; omega) _, H.ta.setOther (by simp; omega) _, H.ai.setOther (by simp; omega) _, H.la.setOther (by simp; omega) _,
    H.st.setOther (by simp; omega) _, grown_set H.frame (Or.inl rfl) _, H.ord⟩

/-- The blocks ahead of the starts' being made. -/
structure Mem0 (w wr : World) (ib ALL LB TB IB XB : Nat) (v0 v1 v2 v5 v6 v7 v8 v9 v10 v11 : Value) (n nt items : Nat) (Lst : Nat → Value) (a g h l : Nat → Int) : Prop where
  box : wr.heap[ib]? = some (.cells #[v0, v1, v2, .slice (some ⟨TB, 0, none⟩) n n, .slice (some ⟨IB, 0, none⟩) 0 n, v5, v6, v7, v8, v9, v10, v11] 65 (0, 0))
  all : wr.rowIs ALL 3 n (intRow a)
  lists : wr.rowIs LB 22 nt Lst
  ta : wr.rowIs TB 3 n (intRow g)
  ai : wr.rowIs IB 3 n (intRow h)
  la : wr.rowIs XB 3 items (intRow l)
  frame : w.grownBy wr (some ib)
  ord : ib < w.heap.size ∧ w.heap.size ≤ ALL ∧ ALL < LB ∧ LB < TB ∧ TB < IB ∧ IB < XB

theorem Mem0.setLa {v5 : Value} (H : Mem0 w wr ib ALL LB TB IB XB v0 v1 v2 v5 v6 v7 v8 v9 v10 v11 n nt items Lst a g h l) (j : Nat) (v : Int) : Mem0 w (wr.setCell ⟨XB, j, none⟩ (.int .i64 v)) ib ALL LB TB IB XB v0 v1 v2 v5 v6 v7 v8 v9 v10 v11 n nt items Lst a g h (upd l j v) := by
  obtain ⟨o1, o2, o3, o4, o5, o6⟩ := H.ord
  exact ⟨by rw [Below.heap_setCell _ _ _ _ (by simp; omega)]; exact H.box, H.all.setOther (by simp; omega) _, H.lists.setOther (by simp; omega) _, H.ta.setOther (by simp; omega) _, H.ai.setOther (by simp; omega) _, intRow_set H.la j v,
    grown_set H.frame (Or.inr (by simp; omega)) _, H.ord⟩

/-- behind 'ix.accessStart = make(..)' -/
theorem Mem0.starts {v5 : Value} (H : Mem0 w wr ib ALL LB TB IB XB v0 v1 v2 v5 v6 v7 v8 v9 v10 v11 n nt items Lst a g h l) :
    Mem w ((wr.setCell ⟨ib, 5, none⟩ (.slice (some ⟨wr.heap.size, 0, none⟩) (nt + 1) (nt + 1))).alloc (.cells (madeCells #[.int .i64 0] (nt + 1)) 3)) ib ALL LB TB IB XB wr.heap.size v0 v1 v2 v6 v7 v8 v9 v10 v11 n nt items 0 Lst a g h l (fun _ => 0) := by
  obtain ⟨o1, o2, o3, o4, o5, o6⟩ := H.ord
  have hx := H.la.lt
  have hibr : ib < wr.heap.size := (Array.getElem?_eq_some_iff.1 H.box).1
  have hsz : (wr.setCell ⟨ib, 5, none⟩ (.slice (some ⟨wr.heap.size, 0, none⟩) (nt + 1) (nt + 1))).heap.size = wr.heap.size := by simp
  have hst := World.rowIs_made (wr.setCell ⟨ib, 5, none⟩ (.slice (some ⟨wr.heap.size, 0, none⟩) (nt + 1) (nt + 1))) (.int .i64 0) (nt + 1) 3
  rw [hsz] at hst
  exact ⟨by rw [Below.heap_alloc _ _ _ (by rw [hsz]; exact hibr)]; simp [World.setCell, Array.getElem?_modify, H.box], (H.all.setOther (by simp; omega) _).alloc _, (H.lists.setOther (by simp; omega) _).alloc _, (H.ta.setOther (by simp; omega) _).alloc _,
    (H.ai.setOther (by simp; omega) _).alloc _, (H.la.setOther (by simp; omega) _).alloc _, hst, (grown_set H.frame (Or.inl rfl) _).trans (World.grownBy_alloc _ _ _), o1, o2, o3, o4, o5, o6, hx⟩

theorem Mem0.cell {v5 : Value} (H : Mem0 w wr ib ALL LB TB IB XB v0 v1 v2 v5 v6 v7 v8 v9 v10 v11 n nt items Lst a g h l) (i : Nat) (v : Value)
    (hv : #[v0, v1, v2, Value.slice (some ⟨TB, 0, none⟩) n n, .slice (some ⟨IB, 0, none⟩) 0 n, v5, v6, v7, v8, v9, v10, v11][i]? = some v) : wr.cell? ⟨ib, i, none⟩ = some v := by
  simp only [World.cell?, H.box]
  exact hv
theorem Mem0.frozen {v5 : Value} (H : Mem0 w wr ib ALL LB TB IB XB v0 v1 v2 v5 v6 v7 v8 v9 v10 v11 n nt items Lst a g h l) (i : Nat) : wr.frozen? ⟨ib, i, none⟩ = false := by
  simp [World.frozen?, H.box]

/-- the world behind the making of touchAccess, accessItem and last -/
theorem Mem0.start {v3 v4 v5 : Value} (hbox : wr.heap[ib]? = some (.cells #[v0, v1, v2, v3, v4, v5, v6, v7, v8, v9, v10, v11] 65 (0, 0))) (hall : wr.rowIs ALL 3 n (intRow a)) (hlist : wr.rowIs LB 22 nt Lst)
    (hf : w.grownBy wr (some ib)) (hord : ib < w.heap.size ∧ w.heap.size ≤ ALL ∧ ALL < LB) :
    Mem0 w (((((wr.setCell ⟨ib, 3, none⟩ (.slice (some ⟨wr.heap.size, 0, none⟩) n n)).setCell ⟨ib, 4, none⟩ (.slice (some ⟨wr.heap.size + 1, 0, none⟩) 0 n)).alloc (.cells (madeCells #[.int .i64 0] n) 3)).alloc (.cells (madeCells #[.int .i64 0] n) 3)).alloc (.cells (madeCells #[.int .i64 0] items) 3))
      ib ALL LB wr.heap.size (wr.heap.size + 1) (wr.heap.size + 1 + 1) v0 v1 v2 v5 v6 v7 v8 v9 v10 v11 n nt items Lst a (fun _ => 0) (fun _ => 0) (fun _ => 0) := by
  obtain ⟨o1, o2, o3⟩ := hord
  have hl := hlist.lt
  have hibr : ib < wr.heap.size := (Array.getElem?_eq_some_iff.1 hbox).1
  obtain ⟨W, hW⟩ : ∃ W : World, W = (wr.setCell ⟨ib, 3, none⟩ (.slice (some ⟨wr.heap.size, 0, none⟩) n n)).setCell ⟨ib, 4, none⟩ (.slice (some ⟨wr.heap.size + 1, 0, none⟩) 0 n) := ⟨_, rfl⟩
  rw [← hW]
  have hsz : W.heap.size = wr.heap.size := by rw [hW]; simp
  have hb : W.heap[ib]? = some (.cells #[v0, v1, v2, .slice (some ⟨wr.heap.size, 0, none⟩) n n, .slice (some ⟨wr.heap.size + 1, 0, none⟩) 0 n, v5, v6, v7, v8, v9, v10, v11] 65 (0, 0)) := by
    rw [hW]; simp [World.setCell, Array.getElem?_modify, hbox]
  have hA : W.rowIs ALL 3 n (intRow a) := by rw [hW]; exact (hall.setOther (by simp; omega) _).setOther (by simp; omega) _
  have hL : W.rowIs LB 22 nt Lst := by rw [hW]; exact (hlist.setOther (by simp; omega) _).setOther (by simp; omega) _
  have hF : w.grownBy W (some ib) := by rw [hW]; exact grown_set (grown_set hf (Or.inl rfl) _) (Or.inl rfl) _
  clear hW
  have r1 := World.rowIs_made W (.int .i64 0) n 3
  have r2 := World.rowIs_made (W.alloc (.cells (madeCells #[.int .i64 0] n) 3)) (.int .i64 0) n 3
  have r3 := World.rowIs_made ((W.alloc (.cells (madeCells #[.int .i64 0] n) 3)).alloc (.cells (madeCells #[.int .i64 0] n) 3)) (.int .i64 0) items 3
  have e1 : (W.alloc (.cells (madeCells #[.int .i64 0] n) 3)).heap.size = wr.heap.size + 1 := by simp [hsz]
  have e2 : ((W.alloc (.cells (madeCells #[.int .i64 0] n) 3)).alloc (.cells (madeCells #[.int .i64 0] n) 3)).heap.size = wr.heap.size + 1 + 1 := by simp [hsz]
  rw [hsz] at r1
  rw [e1] at r2
  rw [e2] at r3
  refine ⟨?_, ((hA.alloc _).alloc _).alloc _, ((hL.alloc _).alloc _).alloc _, (r1.alloc _).alloc _, r2.alloc _, r3, ((hF.trans (World.grownBy_alloc _ _ _)).trans (World.grownBy_alloc _ _ _)).trans (World.grownBy_alloc _ _ _), o1, o2, o3, hl, by omega, by omega⟩
  rw [Below.heap_alloc _ _ _ (by rw [e2]; omega), Below.heap_alloc _ _ _ (by rw [e1]; omega), Below.heap_alloc _ _ _ (by rw [hsz]; omega)]
  exact hb
end
end Go.Proofs.Qxb6601772a
