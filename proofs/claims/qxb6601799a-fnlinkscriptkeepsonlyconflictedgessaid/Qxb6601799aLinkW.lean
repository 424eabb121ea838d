import Derived.Test.Qxb6601799aStep
namespace Go.Proofs.Qxb6601799a
open Go.ChangeShapes Go.WideShapes Go.ChangeAt Go.RowKit
attribute [-go_sem] Go.Builtin.append_

theorem rwAll_take (out : Nat → List (Int × Int)) (rd : List Int) (t : Int) (k : Nat) (hk : k < rd.length) :
    rwAll out (rd.take (k + 1)) t = if rd[k]?.getD 0 = t then rwAll out (rd.take k) t else addE (rwAll out (rd.take k) t) (rd[k]?.getD 0).toNat (t, 4) := by
  rw [List.take_add_one, rwAll, List.foldl_append]
  simp [hk, rwAll]

theorem rwAll_len (out : Nat → List (Int × Int)) (rd : List Int) (t : Int) (u : Nat) : (rwAll out rd t u).length ≤ (out u).length + rd.length := by
  induction rd generalizing out with
  | nil => simp [rwAll]
  | cons r rd ih =>
    simp only [rwAll, List.foldl_cons, List.length_cons] at ih ⊢
    refine Nat.le_trans (ih _) ?_
    split
    · omega
    · simp only [addE]; split
      · subst u; simp; omega
      · omega

set_option maxRecDepth 100000 in
set_option maxHeartbeats 3200000 in
theorem link_write {B : Nat} {w0 w : World} {GB wb kb n : Nat} {V : Nat → Value} {RV : Value} {lw : Int} {rd : List Int} {out : Nat → List (Int × Int)}
    (h : LM B w0 w GB wb kb n V RV lw rd out) (t : Int) (ht0 : 0 ≤ t) (hlw : -1 ≤ lw) (hlwn : lw < n)
    (hb : ∀ u, u < n → (out u).length + rd.length + 1 ≤ 1073741824) (hr : rd.length ≤ 1073741824) (hrd : ∀ r ∈ rd, 0 ≤ r ∧ r < n) (pos line key val : Int) (hv : Bool) :
    Calls Try.prog 17 #[.pointer (some ⟨wb, 0, none⟩), .pointer (some ⟨kb, 0, none⟩), .agg (opv pos line t key true val hv)] w fun e w' => (∃ v, e = .returned v) ∧
      ∃ V' RV', LM B w0 w' GB wb kb n V' RV' t [] (rwAll (edgeIf out lw t 1) rd t) ∧ Kept w w' := by
  obtain ⟨A, rg, rcap, hRV, hA⟩ := h.readers
  subst hRV
  obtain ⟨w1, hw1⟩ : ∃ w1 : World, w1 = w.alloc (.cells (opv pos line t key true val hv) 52) := ⟨_, rfl⟩
  have h1 : Hid (LM B w0 w1 GB wb kb n V (.slice A rd.length rcap) lw rd out) := by rw [hw1]; exact h.alloc _
  have hK1 : Hid (Kept w w1) := by rw [hw1]; exact (Kept.refl w).alloc _
  have hob : Hid (w1.heap[w.heap.size]? = some (.cells (opv pos line t key true val hv) 52 (0, 0))) := by rw [hw1]; exact heap_alloc_new w _
  have hA' := hid hA
  obtain ⟨out1, hout1⟩ : ∃ out1, out1 = edgeIf out lw t 1 := ⟨_, rfl⟩
  rw [← hout1]
  clear h hA
  unfold opv at hw1 hob ⊢
  go_enter Try.func17, Try.ntmps17
  go_upto_region 1 with fail
  rw [← hw1]
  obtain ⟨ob, hobe⟩ : ∃ ob : Nat, ob = w.heap.size := ⟨_, rfl⟩
  rw [← hobe] at hob ⊢
  clear hw1 hobe
  have ho4 : w1.cell? ⟨ob, 4, none⟩ = some (.bool true) := by rw [cell_of_row w1 ob 4 _ _ _ hob.out]; rfl
  have ho2 : w1.cell? ⟨ob, 2, none⟩ = some (.int .i32 t) := by rw [cell_of_row w1 ob 2 _ _ _ hob.out]; rfl
  have hk9 := h1.out.kcell 9 (.int .i32 lw) rfl
  go_upto_region 7 with fail
  go_cut [94] from 81 to 94 (fun c wx => c = .bool (decide (0 ≤ lw ∧ lw ≠ t)) ∧ ∃ m, wx = w1.drewN m)
  case first =>
    by_cases c1 : 0 ≤ lw
    · by_cases c2 : lw = t
      · have c3 : (lw == t) = true := by simp [c2]
        go_quiet (fail)
        all_goals (go_wp2; go_meet; exact ⟨congrArg Value.bool (decide_eq_false (by omega)).symm, _, rfl⟩)
      · have c3 : (lw == t) = false := by simp [c2]
        go_quiet (fail)
        all_goals (go_wp2; go_meet; refine ⟨congrArg Value.bool ?_, _, rfl⟩; rw [decide_eq_true (by omega), bne, c3]; rfl)
    · go_quiet (fail)
      all_goals (go_wp2; go_meet; exact ⟨congrArg Value.bool (decide_eq_false (by omega)).symm, _, rfl⟩)
  case rest =>
    obtain ⟨hu94, m, hm⟩ := hcut
    have h2 : Hid (LM B w0 wc GB wb kb n V (.slice A rd.length rcap) lw rd out) := by rw [hm]; exact h1.out.drewN m
    have hK2 : Hid (Kept w wc) := by rw [hm]; exact hK1.out.drewN m
    have hob2 : Hid (wc.heap[ob]? = some (.cells (opv pos line t key true val hv) 52 (0, 0))) := by rw [hm]; exact hob
    clear hob h1 hK1 ho4 ho2 hk9 hm m w1
    have ho2 : wc.cell? ⟨ob, 2, none⟩ = some (.int .i32 t) := by rw [cell_of_row wc ob 2 _ _ _ hob2.out]; rfl
    have hk9 := h2.out.kcell 9 (.int .i32 lw) rfl
    have hol := (Array.getElem?_eq_some_iff.1 hob2.out).1
    go_upto_if 94 with fail
    go_cut [] from 95 to 118 (fun wx => ∃ V', LM B w0 wx GB wb kb n V' (.slice A rd.length rcap) lw rd out1 ∧ Kept wc wx)
    case first =>
      by_cases c : 0 ≤ lw ∧ lw ≠ t
      · obtain ⟨l, hl⟩ : ∃ l : Nat, lw = (l : Int) := ⟨lw.toNat, by omega⟩
        have hde : decide (0 ≤ lw ∧ lw ≠ t) = true := decide_eq_true c
        rw [hde] at hu94
        have hei : edgeIf out lw t 1 = addE out l (t, 1) := by rw [edgeIf, if_pos c, hl]; rfl
        subst hl
        have hln : l < n := by omega
        have hl0 : (0 : Int) ≤ (l : Int) := by omega
        have hl1 : (l : Int) < (n : Int) := by omega
        have hw4 := h2.out.wcell 4 (.slice (some ⟨GB, 0, none⟩) n n) rfl
        have hgc := h2.out.graph.cell hln
        have hgf := h2.out.graph.frozen l
        have hwl := h2.out.wlt
        have hkl := h2.out.klt
        have hgl := h2.out.glt
        obtain ⟨gg, cap, w1, hrun, hgc1, hgf1, hx1, hx2, hx3, hLM⟩ := edge_run h2.out hln t 1 (by have := hb l hln; omega) hob2.out (v2 := .int .i32 t) rfl
        subst hu94
        go_wp2_with fail
        go_region
        go_wp2
        go_meet
        rw [hout1, hei]
        obtain ⟨⟨V', h3⟩, hK3⟩ := hLM.out
        exact ⟨V', h3, hK3⟩
      · have hde : decide (0 ≤ lw ∧ lw ≠ t) = false := decide_eq_false c
        rw [hde] at hu94
        subst hu94
        go_wp2
        go_meet
        rw [hout1, edgeIf, if_neg c]
        exact ⟨V, h2.out, Kept.refl _⟩
    case rest =>
      obtain ⟨V1, h3, hK3⟩ := hcut
      have hob3 : Hid (wc.heap[ob]? = some (.cells (opv pos line t key true val hv) 52 (0, 0))) := hK3 ob _ _ _ (.inr rfl) hob2.out
      have hK4 : Hid (Kept w wc) := hK2.out.trans hK3
      have h4 := hid h3
      have hb1 : Hid (∀ u, u < n → (out1 u).length + rd.length ≤ 1073741824) := by
        intro u hu
        rw [hout1, edgeIf]
        have := hb u hu
        split
        · simp only [addE]; split
          · subst u; simp; omega
          · omega
        · omega
      have hrd' := hid hrd
      clear hrd hK3 h3 hk9 ho2 hol hob2 hK2 h2 hb hu94 hout1
      have hk10 := h4.out.kcell 10 (.slice A rd.length rcap) rfl
      go_wp2_with fail
      clear hk10
      obtain ⟨wl, hwl⟩ : ∃ wl : World, wl = wc := ⟨_, rfl⟩
      rw [← hwl] at hob3 hK4
      go_loopw [124] (fun i wr => ∃ (k : Nat) (V2 : Nat → Value), k ≤ rd.length ∧ i = .int .i64 k ∧ LM B w0 wr GB wb kb n V2 (.slice A rd.length rcap) lw rd (rwAll out1 (rd.take k) t) ∧ Kept wl wr) (fun i _ => rd.length - (intOf i).toNat)
      case atStart =>
        refine ⟨0, V1, Nat.zero_le _, rfl, ?_, by rw [hwl]; exact Kept.refl _⟩
        simpa [rwAll] using h4.out
      case round =>
        clear h4 hwl
        obtain ⟨k, V2, hk, rfl, hL, hKr⟩ := hrel
        have hob4 : Hid (wr.heap[ob]? = some (.cells (opv pos line t key true val hv) 52 (0, 0))) := hKr ob _ _ _ (.inr rfl) hob3.out
        have HL := hid hL
        have HK := hid hKr
        clear hL hKr
        by_cases hlt : k < rd.length
        · have hAs : A = some ⟨rg, 0, none⟩ := by
            rcases hA'.out with ⟨_, e, _⟩ | e
            · rw [e] at hlt; exact absurd hlt (by simp)
            · exact e
          have hix : ∀ w : World, (Instr.indexAt 47 (.slice A rd.length rcap) (.int .i64 (k : Int))).run Try.prog w = .ok (.pointer (some ⟨rg, k, none⟩)) w := by
            intro w
            have := run_indexAt_any (P := Try.prog) 47 21 A rd.length rcap rg 0 1 Try.underlying47 size21 (fun _ => hAs) k hlt w
            rw [this]
            simp
          have hcl := (by have := HL.out; rw [hAs] at this; exact this.reader k hlt : wr.cell? ⟨rg, k, none⟩ = some (.int .i32 (rd[k]?.getD 0)))
          have hst := hid (rwAll_take out1 rd t k hlt)
          have hrn : 0 ≤ rd[k]?.getD 0 ∧ rd[k]?.getD 0 < n := hrd'.out _ (by simp [hlt])
          have ho2 : wr.cell? ⟨ob, 2, none⟩ = some (.int .i32 t) := by rw [cell_of_row wr ob 2 _ _ _ hob4.out]; rfl
          obtain ⟨l, hl⟩ : ∃ l : Nat, rd[k]?.getD 0 = (l : Int) := ⟨(rd[k]?.getD 0).toNat, by omega⟩
          rw [hl] at hcl hst hrn
          by_cases c2 : (l : Int) = t
          · have c3 : ((l : Int) == t) = true := by simp [c2]
            clear hl
            go_wp2
            go_roundw
            case rel =>
              refine ⟨k + 1, V2, by omega, by go_num, ?_, HK.out⟩
              rw [hst.out, if_pos c2]; exact HL.out
            case measure => simp [intOf]; omega
          · have c3 : ((l : Int) == t) = false := by simp [c2]
            have hln : l < n := by omega
            have hl0 : (0 : Int) ≤ (l : Int) := by omega
            have hl1 : (l : Int) < (n : Int) := by omega
            have hw4 := HL.out.wcell 4 (.slice (some ⟨GB, 0, none⟩) n n) rfl
            have hgc := HL.out.graph.cell hln
            have hgf := HL.out.graph.frozen l
            have hwl := HL.out.wlt
            have hgl := HL.out.glt
            have hol := (Array.getElem?_eq_some_iff.1 hob4.out).1
            obtain ⟨gg, cap, w1, hrun, hgc1, hgf1, hx1, hx2, hx3, hLM⟩ := edge_run HL.out hln t 4 (by have h1 := hb1.out l hln; have h2 := rwAll_len out1 (rd.take k) t l; simp at h2; omega) hob4.out (v2 := .int .i32 t) rfl
            clear hl
            go_wp2_with fail
            go_region
            go_wp2
            go_roundw
            case rel =>
              obtain ⟨⟨V', h3⟩, hK3⟩ := hLM.out
              refine ⟨k + 1, V', by omega, by go_num, ?_, HK.out.trans hK3⟩
              rw [hst.out, if_neg c2]; exact h3
            case measure => simp [intOf]; omega
        · have hke : k = rd.length := by omega
          subst hke
          have hk10 := HL.out.kcell 10 (.slice A rd.length rcap) rfl
          have hkf := HL.out.kfrozen 10
          have hkf9 := HL.out.kfrozen 9
          have hk9 := HL.out.kcell 9 (.int .i32 lw) rfl
          have ho2 : wr.cell? ⟨ob, 2, none⟩ = some (.int .i32 t) := by rw [cell_of_row wr ob 2 _ _ _ hob4.out]; rfl
          have hko : kb ≠ ob := fun e => by
            exact HL.out.ne_of_type HL.out.kbox hob4.out (by decide) e
          have hfin : Hid (∀ w1, w1 = (wr.setCell ⟨kb, 10, none⟩ (.slice A 0 rcap)).setCell ⟨kb, 9, none⟩ (.int .i32 t) → (LM B w0 w1 GB wb kb n V2 (.slice A 0 rcap) t [] (rwAll out1 rd t) ∧ Kept w w1)) := by
            intro w1 hw1
            have h5 := HL.out.clear hA'.out
            have h6 := h5.1.setLast t
            rw [← hw1] at h6
            rw [List.take_length] at h6
            exact ⟨h6.1, hK4.out.trans (HK.out.trans (h5.2.trans h6.2))⟩
          rcases hA'.out with ⟨e1, e2, e3⟩ | e1
          · subst e1 e3 e2
            simp only [List.length_nil] at hk10 HL hfin ⊢
            go_wp2
            refine ⟨rfl, _, results_none rfl _ _ _, ?_⟩
            have hf := hfin.out _ rfl
            first
              | exact ⟨⟨_, rfl⟩, V2, _, hf.1, hf.2⟩
              | exact ⟨⟨_, rfl⟩, ⟨V2, _, hf.1⟩, hf.2⟩
          · subst e1
            go_wp2
            refine ⟨rfl, _, results_none rfl _ _ _, ?_⟩
            have hf := hfin.out _ rfl
            first
              | exact ⟨⟨_, rfl⟩, V2, _, hf.1, hf.2⟩
              | exact ⟨⟨_, rfl⟩, ⟨V2, _, hf.1⟩, hf.2⟩
end Go.Proofs.Qxb6601799a
