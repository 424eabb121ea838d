import Derived.Test.Qxb6601799aReach
namespace Go.Proofs.Qxb6601799a
open Go.ChangeShapes Go.WideShapes Go.ChangeAt Go.RowKit

/-- The search's memory: the queue's row, the row of what was seen. -/
structure QM (w wr : World) (sb qb n u : Nat) (qs : List Nat) : Prop where
  grown : w.grownBy wr (some sb)
  hq : w.heap.size ≤ qb
  row : ∃ f, wr.rowIs qb 3 (n + 1) f ∧ ∀ (i x : Nat), (u :: qs)[i]? = some x → f i = .int .i64 x
  seen : wr.rowIs sb 4 n (fun v => .bool (decide (v ∈ qs)))

theorem QM.push {w wr : World} {sb qb n u v : Nat} {qs : List Nat} (h : QM w wr sb qb n u qs) (hsb : sb < w.heap.size) (o : Obj) :
    QM w (((wr.setCell ⟨sb, v, none⟩ (.bool true)).setCell ⟨qb, qs.length + 1, none⟩ (.int .i64 v)).alloc o) sb qb n u (qs ++ [v]) := by
  have hq := h.hq
  refine ⟨grown_alloc (grown_set (grown_set h.grown (.inl rfl) _) (.inr hq) _) o, hq, ?_, ?_⟩
  · obtain ⟨f, hf, hx⟩ := h.row
    refine ⟨_, ((hf.setOther (by show qb ≠ sb; omega) _).set (qs.length + 1) _).alloc o, ?_⟩
    intro i x hi
    by_cases e : i = qs.length + 1
    · subst e
      rw [if_pos rfl]
      simp at hi
      rw [hi]
    · rw [if_neg e]
      refine hx i x ?_
      rw [← List.cons_append] at hi
      rcases Nat.lt_or_ge i (qs.length + 1) with hl | hl
      · rwa [List.getElem?_append_left (by simpa using hl)] at hi
      · rw [List.getElem?_eq_none (by simp; omega)] at hi; cases hi
  · refine World.rowIs.congr (f := fun j => if j = v then .bool true else .bool (decide (j ∈ qs))) (((h.seen.set v _).setOther (by show sb ≠ qb; omega) _).alloc o) ?_
    intro i hi
    by_cases e : i = v
    · subst e; simp
    · simp [e]

set_option maxRecDepth 100000 in
set_option maxHeartbeats 3200000 in
theorem reach_contract {B : Nat} {w0 w : World} {GB wb kb n : Nat} {V : Nat → Value} {RV : Value} {lw : Int} {rd : List Int} {out : Nat → List (Int × Int)}
    (h : LM B w0 w GB wb kb n V RV lw rd out) (hn : n ≤ 4096) (u : Nat) (hu : u < n) (mask : Int) (sb : Nat) (S0 : Nat → Bool) (hs : w.rowIs sb 4 n (fun v => .bool (S0 v))) (hB : B ≤ sb)
    (hout : ∀ x, x < n → ∀ e ∈ out x, 0 ≤ e.1 ∧ e.1 < n) (hlen : ∀ x, x < n → (out x).length ≤ 1073741824) :
    Calls Try.prog 16 #[.pointer (some ⟨wb, 0, none⟩), .int .i64 n, .int .i64 u, .int .i64 mask, .slice (some ⟨sb, 0, none⟩) n n] w fun e w' => e = .returned (.bool true) ∧ w.grownBy w' (some sb) ∧
      ∃ S : Nat → Bool, w'.rowIs sb 4 n (fun v => .bool (S v)) ∧ ∀ v, Path out mask u v → S v = true := by
  have HS := hid hs
  have HO := hid hout
  have HLn := hid hlen
  have hsl := hs.lt
  have hmk := run_make_cap (P := Try.prog) 30 3 (.int .i64 0) 8 Try.underlying30 Try.info3 rfl (n + 1) (by omega) (by omega)
  rw [show ((n + 1 : Nat) : Int) = (n : Int) + 1 by omega] at hmk
  have HLM : Hid (∀ wx, w.grownBy wx (some sb) → LM B w0 wx GB wb kb n V RV lw rd out) := by
    intro wx hg
    obtain ⟨c4, hc4, _, _⟩ := hs
    exact h.grown4 hc4 hB hg
  clear h hs hout hlen
  go_enter Try.func16, Try.ntmps16
  go_wp2
  go_loopw [11] (fun i wr => ∃ (k : Nat) (S : Nat → Bool), k ≤ n ∧ i = .int .i64 k ∧ w.grownBy wr (some sb) ∧ wr.rowIs sb 4 n (fun v => .bool (S v)) ∧ ∀ v, v < k → S v = false) (fun i _ => n - (intOf i).toNat)
  case atStart => exact ⟨0, S0, Nat.zero_le _, rfl, World.grownBy.refl _ _, HS.out, fun v hv => by omega⟩
  case round =>
    obtain ⟨k, S, hk, rfl, hgr, hrow, hS⟩ := hrel
    have HG := hid hgr
    have HR := hid hrow
    have HSk := hid hS
    clear hgr hS
    by_cases hlt : k < n
    · have hc := hrow.cell hlt
      have hf := hrow.frozen k
      clear hrow
      go_wp2
      go_roundw
      case rel =>
        refine ⟨k + 1, fun j => if j = k then false else S j, by omega, by go_num, grown_set HG.out (.inl rfl) _, (HR.out.set k _).congr fun i hi => ?_, fun v hv => ?_⟩
        · simp only; split <;> rfl
        · simp only; split
          · rfl
          · exact HSk.out v (by omega)
      case measure => simp [intOf]; omega
    · have hke : n = k := by omega
      subst hke
      clear hrow
      have hwr := HG.out.size
      go_upto_region 6 with fail
      have hmade := World.rowIs_made wr (.int .i64 0) (n + 1) 3
      have hQ0 : Hid (w.grownBy (wr.alloc (.cells (madeCells #[.int .i64 0] (n + 1)) 3)) (some sb) ∧ w.heap.size ≤ wr.heap.size ∧ (wr.alloc (.cells (madeCells #[.int .i64 0] (n + 1)) 3)).rowIs wr.heap.size 3 (n + 1) (fun _ => .int .i64 0) ∧
          (wr.alloc (.cells (madeCells #[.int .i64 0] (n + 1)) 3)).rowIs sb 4 n (fun v => .bool (decide (v ∈ ([] : List Nat))))) := by
        refine ⟨grown_alloc HG.out _, hwr, hmade, (HR.out.alloc _).congr fun i hi => ?_⟩
        rw [HSk.out i hi]; rfl
      clear hmade
      obtain ⟨wq, hwq⟩ : ∃ wq : World, wq = wr.alloc (.cells (madeCells #[.int .i64 0] (n + 1)) 3) := ⟨_, rfl⟩
      obtain ⟨qb, hqb⟩ : ∃ qb : Nat, qb = wr.heap.size := ⟨_, rfl⟩
      rw [← hwq, ← hqb] at hQ0 ⊢
      clear HG HR HSk hwr hqb hwq hmk
      have hq0 := hQ0.out.2.2.1.cell (i := 0) (by omega)
      have hqf := hQ0.out.2.2.1.frozen 0
      have hql := hQ0.out.2.2.1.lt
      have hHq := hQ0.out.2.1
      go_wp2
      have hQ : Hid (QM w ((wq.setCell ⟨qb, 0, none⟩ (.int .i64 u)).alloc (.cells #[.int .i64 u] 3)) sb qb n u []) := by
        obtain ⟨h1, h2, h3, h4⟩ := hQ0.out
        refine ⟨grown_alloc (grown_set h1 (.inr h2) _) _, h2, ⟨_, (h3.set 0 _).alloc _, ?_⟩, (h4.setOther (by show sb ≠ qb; omega) _).alloc _⟩
        intro i x hi
        cases i with
        | zero => simp at hi; subst hi; simp
        | succ i => simp at hi
      obtain ⟨wl, hwl⟩ : ∃ wl : World, wl = (wq.setCell ⟨qb, 0, none⟩ (.int .i64 u)).alloc (.cells #[.int .i64 u] 3) := ⟨_, rfl⟩
      rw [← hwl] at hQ ⊢
      clear hwl hQ0 hq0 hqf hql
      go_loopw [13, 12] (fun i q wx => ∃ (hh : Nat) (qs : List Nat), hh ≤ qs.length + 1 ∧ i = .int .i64 hh ∧ q = .slice (some ⟨qb, 0, none⟩) (qs.length + 1) (n + 1) ∧ BF out mask n u qs hh ∧ QM w wx sb qb n u qs) (fun i _ _ => n + 1 - (intOf i).toNat)
      case atStart => exact ⟨0, [], by simp, rfl, rfl, ⟨by simp, by simp, fun i x hi => by omega⟩, hQ.out⟩
      case round =>
        obtain ⟨hh, qs, hhq, rfl, rfl, hBF, hQM⟩ := hrel
        clear hQ
        have HB := hid hBF
        have HQ := hid hQM
        have hqn := hBF.len
        clear hBF hQM
        by_cases hlt : hh < qs.length + 1
        · obtain ⟨x, hx⟩ : ∃ x, (u :: qs)[hh]? = some x := ⟨(u :: qs)[hh]'(by simpa using hlt), by simp⟩
          have hxn : x < n := by
            have hm := List.mem_of_getElem? hx
            rcases List.mem_cons.1 hm with e | e
            · omega
            · exact HB.out.lt x e
          have hqc : wr.cell? ⟨qb, hh, none⟩ = some (.int .i64 x) := by
            obtain ⟨f, hf, hfx⟩ := HQ.out.row
            rw [hf.cell (by omega), hfx hh x hx]
          have hHLn := HLn.out x hxn
          go_wp2_with fail
          refine (outLen_contract (HLM.out _ HQ.out.grown) hxn).mono ?_
          rintro e w1 ⟨rfl, hw⟩
          obtain rfl := hw.symm
          go_wp2_with fail
          clear hqc
          go_loopw [16, 12] (fun i q wx => ∃ (j : Nat) (qs' : List Nat), j ≤ (out x).length ∧ i = .int .i64 j ∧ q = .slice (some ⟨qb, 0, none⟩) (qs'.length + 1) (n + 1) ∧ BF out mask n u qs' hh ∧ QM w wx sb qb n u qs' ∧
            (u :: qs')[hh]? = some x ∧ ∀ (i : Nat) (e : Int × Int), i < j → (out x)[i]? = some e → adm e.2 mask = true → e.1.toNat ∈ qs') (fun i _ _ => (out x).length - (intOf i).toNat)
          case atStart => exact ⟨0, qs, Nat.zero_le _, rfl, rfl, HB.out, HQ.out, hx, fun i e hi => by omega⟩
          case round =>
            clear HB HQ hx hqn hlt hhq
            obtain ⟨j, qs2, hj, rfl, rfl, hBF, hQM, hx, hdone⟩ := hrel
            have HB := hid hBF
            have HQ := hid hQM
            have HD := hid hdone
            have HX := hid hx
            have hqn := hBF.len
            clear hBF hQM hdone hx
            by_cases hlt : j < (out x).length
            · obtain ⟨e, he⟩ : ∃ e, (out x)[j]? = some e := ⟨(out x)[j], by simp⟩
              have hre := HO.out x hxn e (List.mem_of_getElem? he)
              have HE := hid he
              obtain ⟨v, hv⟩ : ∃ v : Nat, e.1 = (v : Int) := ⟨e.1.toNat, by omega⟩
              obtain ⟨e1, e2⟩ := e
              simp only at hv hre
              subst hv
              have hvn : v < n := by omega
              clear he hre
              go_wp2_with fail
              refine (outKind_contract (HLM.out _ HQ.out.grown) hxn HE.out).mono ?_
              rintro e w1 ⟨rfl, hw⟩
              obtain rfl := hw.symm
              go_wp2_with fail
              refine (admits_contract _ _ _).mono ?_
              rintro e w1 ⟨rfl, hw⟩
              obtain rfl := hw.symm
              by_cases hadm : adm e2 mask = true
              · rw [hadm]
                go_wp2_with fail
                refine (outTo_contract (HLM.out _ HQ.out.grown) hxn HE.out).mono ?_
                rintro e w1 ⟨rfl, hw⟩
                obtain rfl := hw.symm
                have hsc := HQ.out.seen.cell hvn
                have hsf := HQ.out.seen.frozen v
                by_cases hin : v ∈ qs2
                · have hde : decide (v ∈ qs2) = true := decide_eq_true hin
                  rw [hde] at hsc
                  go_wp2
                  go_roundw
                  case rel =>
                    refine ⟨j + 1, qs2, by omega, by go_num, rfl, HB.out, HQ.out, HX.out, fun i e hi he ha => ?_⟩
                    by_cases hij : i = j
                    · subst hij
                      rw [HE.out] at he
                      injection he with he
                      subst he
                      simpa using hin
                    · exact HD.out i e (by omega) he ha
                  case measure => simp [intOf]; omega
                · have hde : decide (v ∈ qs2) = false := decide_eq_false hin
                  rw [hde] at hsc
                  have hqn2 : qs2.length + 1 < n + 1 := by
                    have := (HB.out.push hvn hin (by have := (List.getElem?_eq_some_iff.1 HX.out).1; simp at this; omega)).len
                    simp at this; omega
                  have hqc : ∃ y, wr.cell? ⟨qb, qs2.length + 1, none⟩ = some y := by
                    obtain ⟨f, hf, hfx⟩ := HQ.out.row
                    exact ⟨_, hf.cell hqn2⟩
                  obtain ⟨y, hqc⟩ := hqc
                  have hqf : wr.frozen? ⟨qb, qs2.length + 1, none⟩ = false := by
                    obtain ⟨f, hf, hfx⟩ := HQ.out.row
                    exact hf.frozen _
                  have hql : qb < wr.heap.size := by
                    obtain ⟨f, hf, hfx⟩ := HQ.out.row
                    exact hf.lt
                  have hsl2 : sb < wr.heap.size := HQ.out.seen.lt
                  have hne : qb ≠ sb := by omega
                  have hXl := (List.getElem?_eq_some_iff.1 HX.out).1
                  simp only [List.length_cons] at hXl
                  go_wp2
                  refine ⟨⟨j + 1, qs2 ++ [v], by omega, by go_num, by simp, HB.out.push hvn hin (by omega), HQ.out.push hsl _, ?_, fun i e hi he ha => ?_⟩, by simp [intOf]; omega⟩
                  · rw [← List.cons_append, List.getElem?_append_left (by simpa using hXl)]; exact HX.out
                  · by_cases hij : i = j
                    · subst hij
                      rw [HE.out] at he
                      injection he with he
                      subst he
                      simp
                    · exact List.mem_append.2 (.inl (HD.out i e (by omega) he ha))
              · have hadm' : adm e2 mask = false := by simpa using hadm
                rw [hadm']
                go_wp2
                go_roundw
                case rel =>
                  refine ⟨j + 1, qs2, by omega, by go_num, rfl, HB.out, HQ.out, HX.out, fun i e hi he ha => ?_⟩
                  by_cases hij : i = j
                  · subst hij
                    rw [HE.out] at he
                    injection he with he
                    subst he
                    exact absurd ha hadm
                  · exact HD.out i e (by omega) he ha
                case measure => simp [intOf]; omega
            · have hje : j = (out x).length := by omega
              subst hje
              have hXl := (List.getElem?_eq_some_iff.1 HX.out).1
              simp only [List.length_cons] at hXl
              go_wp2
              go_roundw
              case rel =>
                refine ⟨hh + 1, qs2, by omega, by go_num, rfl, HB.out.next HX.out (fun e he ha => ?_), HQ.out⟩
                · obtain ⟨i, hi, hie⟩ := List.getElem_of_mem he
                  exact HD.out i e hi (by rw [List.getElem?_eq_getElem hi, hie]) ha
              case measure => simp [intOf]; omega
        · have hhe : hh = qs.length + 1 := by omega
          subst hhe
          go_wp2
          go_ret
          refine ⟨rfl, HQ.out.grown, _, HQ.out.seen, fun v hp => decide_eq_true (HB.out.done hp)⟩
end Go.Proofs.Qxb6601799a
