import Derived.Test.Qxb6601799aStep
namespace Go.Proofs.Qxb6601799a
open Go.ChangeShapes Go.WideShapes Go.ChangeAt Go.RowKit
attribute [-go_sem] Go.Builtin.append_

set_option maxRecDepth 100000 in
set_option maxHeartbeats 3200000 in
theorem link_read {B : Nat} {w0 w : World} {GB wb kb n : Nat} {V : Nat → Value} {RV : Value} {lw : Int} {rd : List Int} {out : Nat → List (Int × Int)}
    (h : LM B w0 w GB wb kb n V RV lw rd out) (t : Int) (ht0 : 0 ≤ t) (hlw : -1 ≤ lw) (hlwn : lw < n)
    (hb : ∀ u, u < n → (out u).length ≤ 1073741824) (hr : rd.length ≤ 1073741824) (pos line key val : Int) (hv : Bool) :
    Calls Try.prog 17 #[.pointer (some ⟨wb, 0, none⟩), .pointer (some ⟨kb, 0, none⟩), .agg (opv pos line t key false val hv)] w fun e w' => (∃ v, e = .returned v) ∧
      ∃ V' RV', LM B w0 w' GB wb kb n V' RV' lw (readRd rd t) (edgeIf out lw t 2) ∧ Kept w w' := by
  obtain ⟨A, rg, rcap, hRV, hA⟩ := h.readers
  subst hRV
  obtain ⟨w1, hw1⟩ : ∃ w1 : World, w1 = w.alloc (.cells (opv pos line t key false val hv) 52) := ⟨_, rfl⟩
  have h1 : Hid (LM B w0 w1 GB wb kb n V (.slice A rd.length rcap) lw rd out) := by rw [hw1]; exact h.alloc _
  have hK1 : Hid (Kept w w1) := by rw [hw1]; exact (Kept.refl w).alloc _
  have hob : Hid (w1.heap[w.heap.size]? = some (.cells (opv pos line t key false val hv) 52 (0, 0))) := by rw [hw1]; exact heap_alloc_new w _
  have hA' := hid hA
  obtain ⟨out1, hout1⟩ : ∃ out1, out1 = edgeIf out lw t 2 := ⟨_, rfl⟩
  rw [← hout1]
  clear h hA
  unfold opv at hw1 hob ⊢
  go_enter Try.func17, Try.ntmps17
  go_upto_region 1 with fail
  rw [← hw1]
  obtain ⟨ob, hobe⟩ : ∃ ob : Nat, ob = w.heap.size := ⟨_, rfl⟩
  rw [← hobe] at hob ⊢
  clear hw1 hobe
  have ho4 : w1.cell? ⟨ob, 4, none⟩ = some (.bool false) := by rw [cell_of_row w1 ob 4 _ _ _ hob.out]; rfl
  have ho2 : w1.cell? ⟨ob, 2, none⟩ = some (.int .i32 t) := by rw [cell_of_row w1 ob 2 _ _ _ hob.out]; rfl
  have hk9 := h1.out.kcell 9 (.int .i32 lw) rfl
  go_upto_region 2 with fail
  go_cut [25] from 12 to 25 (fun c wx => c = .bool (decide (0 ≤ lw ∧ lw ≠ t)) ∧ ∃ m, wx = w1.drewN m)
  case first =>
    by_cases c1 : 0 ≤ lw
    · by_cases c2 : lw = t
      · have c3 : (lw == t) = true := by simp [c2]
        go_quiet (fail)
        all_goals (go_wp2; go_meet; exact ⟨congrArg Value.bool (decide_eq_false (by omega)).symm, _, rfl⟩)
      · have c3 : (lw == t) = false := by simp [c2]
        go_quiet (fail)
        all_goals (go_wp2; go_meet; refine ⟨congrArg Value.bool ?_, _, rfl⟩; rw [decide_eq_true (by omega), bne, c3]; rfl)
    · go_quiet (fail)
      all_goals (go_wp2; go_meet; exact ⟨congrArg Value.bool (decide_eq_false (by omega)).symm, _, rfl⟩)
  case rest =>
    obtain ⟨hu25, m, hm⟩ := hcut
    have h2 : Hid (LM B w0 wc GB wb kb n V (.slice A rd.length rcap) lw rd out) := by rw [hm]; exact h1.out.drewN m
    have hK2 : Hid (Kept w wc) := by rw [hm]; exact hK1.out.drewN m
    have hob2 : Hid (wc.heap[ob]? = some (.cells (opv pos line t key false val hv) 52 (0, 0))) := by rw [hm]; exact hob
    clear hob h1 hK1 ho4 ho2 hk9 hm m w1
    have ho2 : wc.cell? ⟨ob, 2, none⟩ = some (.int .i32 t) := by rw [cell_of_row wc ob 2 _ _ _ hob2.out]; rfl
    have hk9 := h2.out.kcell 9 (.int .i32 lw) rfl
    have hol := (Array.getElem?_eq_some_iff.1 hob2.out).1
    go_upto_if 25 with fail
    go_cut [] from 26 to 49 (fun wx => ∃ V', LM B w0 wx GB wb kb n V' (.slice A rd.length rcap) lw rd out1 ∧ Kept wc wx)
    case first =>
      by_cases c : 0 ≤ lw ∧ lw ≠ t
      · obtain ⟨l, hl⟩ : ∃ l : Nat, lw = (l : Int) := ⟨lw.toNat, by omega⟩
        have hde : decide (0 ≤ lw ∧ lw ≠ t) = true := decide_eq_true c
        rw [hde] at hu25
        have hei : edgeIf out lw t 2 = addE out l (t, 2) := by rw [edgeIf, if_pos c, hl]; rfl
        subst hl
        have hln : l < n := by omega
        have hl0 : (0 : Int) ≤ (l : Int) := by omega
        have hl1 : (l : Int) < (n : Int) := by omega
        have hw4 := h2.out.wcell 4 (.slice (some ⟨GB, 0, none⟩) n n) rfl
        have hgc := h2.out.graph.cell hln
        have hgf := h2.out.graph.frozen l
        have hwl := h2.out.wlt
        have hkl := h2.out.klt
        have hgl := h2.out.glt
        obtain ⟨gg, cap, w1, hrun, hgc1, hgf1, hx1, hx2, hx3, hLM⟩ := edge_run h2.out hln t 2 (hb l hln) hob2.out (v2 := .int .i32 t) rfl
        subst hu25
        go_wp2_with fail
        go_region
        go_wp2
        go_meet
        rw [hout1, hei]
        obtain ⟨⟨V', h3⟩, hK3⟩ := hLM.out
        exact ⟨V', h3, hK3⟩
      · have hde : decide (0 ≤ lw ∧ lw ≠ t) = false := decide_eq_false c
        rw [hde] at hu25
        subst hu25
        go_wp2
        go_meet
        rw [hout1, edgeIf, if_neg c]
        exact ⟨V, h2.out, Kept.refl _⟩
    case rest =>
      obtain ⟨V1, h3, hK3⟩ := hcut
      have hob3 : Hid (wc.heap[ob]? = some (.cells (opv pos line t key false val hv) 52 (0, 0))) := hK3 ob _ _ _ (.inr rfl) hob2.out
      have hK4 : Hid (Kept w wc) := hK2.out.trans hK3
      have h4 := hid h3
      clear hK3 h3 hk9 ho2 hol hob2 hK2 h2 hb hu25 hout1
      have ho2 : wc.cell? ⟨ob, 2, none⟩ = some (.int .i32 t) := by rw [cell_of_row wc ob 2 _ _ _ hob3.out]; rfl
      have hk10 := h4.out.kcell 10 (.slice A rd.length rcap) rfl
      go_upto_region 5 with fail
      go_cut [69] from 55 to 69 (fun c wx => c = .bool (decide (rd.getLast? ≠ some t)) ∧ ∃ m, wx = wc.drewN m)
      case first =>
        by_cases c1 : rd.length = 0
        · have c3 : ((rd.length : Int) == 0) = true := by simp [c1]
          have c4 : rd = [] := List.length_eq_zero_iff.1 c1
          go_quiet (fail)
          all_goals (go_wp2; go_meet; refine ⟨congrArg Value.bool ?_, _, rfl⟩; simp [c4])
        · have c3 : ((rd.length : Int) == 0) = false := by simpa using c1
          obtain ⟨q, hq⟩ : ∃ q, rd.length = q + 1 := ⟨rd.length - 1, by omega⟩
          have hAs : A = some ⟨rg, 0, none⟩ := by
            rcases hA'.out with ⟨_, e, _⟩ | e
            · rw [e] at c1; exact absurd rfl c1
            · exact e
          have hcl := (by have := h4.out; rw [hAs] at this; exact this.reader q (by omega) : wc.cell? ⟨rg, q, none⟩ = some (.int .i32 (rd[q]?.getD 0)))
          have hlast : rd.getLast? = some (rd[q]?.getD 0) := by rw [List.getLast?_eq_getElem?, hq]; simp [hq]
          obtain ⟨r, hre⟩ : ∃ r, r = rd[q]?.getD 0 := ⟨_, rfl⟩
          rw [← hre] at hcl hlast
          have hix : ∀ w : World, (Instr.indexAt 47 (.slice A rd.length rcap) (.int .i64 ((rd.length : Int) - 1))).run Try.prog w = .ok (.pointer (some ⟨rg, q, none⟩)) w := by
            intro w
            have := run_indexAt_any (P := Try.prog) 47 21 A rd.length rcap rg 0 1 Try.underlying47 size21 (fun _ => hAs) q (by omega) w
            rw [show ((rd.length : Int) - 1) = (q : Int) by omega, this]
            simp
          have hlast' := hid hlast
          clear hlast hre hAs hq
          by_cases c2 : r = t
          · have c5 : (r == t) = true := by simp [c2]
            go_quiet (fail)
            all_goals (go_wp2; go_meet; refine ⟨congrArg Value.bool ?_, _, rfl⟩; rw [hlast'.out]; simp [c2])
          · have c5 : (r == t) = false := by simp [c2]
            go_quiet (fail)
            all_goals (go_wp2; go_meet; refine ⟨congrArg Value.bool ?_, _, rfl⟩; rw [hlast'.out]; simp [c2])
      case rest =>
        obtain ⟨hu69, m, hm⟩ := hcut
        have h5 : Hid (LM B w0 wc GB wb kb n V1 (.slice A rd.length rcap) lw rd out1) := by rw [hm]; exact h4.out.drewN m
        have hK5 : Hid (Kept w wc) := by rw [hm]; exact hK4.out.drewN m
        have hob5 : Hid (wc.heap[ob]? = some (.cells (opv pos line t key false val hv) 52 (0, 0))) := by rw [hm]; exact hob3.out
        clear h4 hK4 hob3 ho2 hk10 hm m
        have ho2 : wc.cell? ⟨ob, 2, none⟩ = some (.int .i32 t) := by rw [cell_of_row wc ob 2 _ _ _ hob5.out]; rfl
        have hk10 := h5.out.kcell 10 (.slice A rd.length rcap) rfl
        have hkf := h5.out.kfrozen 10
        have hkl := h5.out.klt
        have hol := (Array.getElem?_eq_some_iff.1 hob5.out).1
        by_cases c : rd.getLast? = some t
        · have hde : decide (rd.getLast? ≠ some t) = false := decide_eq_false (fun e => e c)
          rw [hde] at hu69
          subst hu69
          go_wp2
          refine bodyPost_ret (results_none rfl _ _ _) rfl ?_
          refine ⟨⟨_, rfl⟩, V1, .slice A rd.length rcap, ?_, hK5.out⟩
          rw [readRd, if_pos c]
          exact h5.out
        · have hde : decide (rd.getLast? ≠ some t) = true := decide_eq_true c
          rw [hde] at hu69
          subst hu69
          obtain ⟨gg, cap, w1, hrun, hgc1, hgf1, hx3, hLM⟩ := reader_run h5.out t hr hob5.out (v2 := .int .i32 t) rfl
          go_wp2_with fail
          go_region
          go_wp2
          refine bodyPost_ret (results_none rfl _ _ _) rfl ?_
          refine ⟨⟨_, rfl⟩, V1, .slice (some ⟨gg, 0, none⟩) (rd.length + 1) cap, ?_, hK5.out.trans hLM.out.2⟩
          rw [readRd, if_neg c]
          exact hLM.out.1
end Go.Proofs.Qxb6601799a
