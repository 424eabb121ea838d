import Derived.Test.Qxb6601772aNumA
namespace Go.Proofs.Qxb6601772a
open Go.ChangeShapes Go.WideShapes Go.ChangeAt Go.RowKit Go.Deep

/-- the three results, as rows -/
structure AccOut (w : World) (n nt TB IB SB : Nat) (g h s : Nat → Int) (τ χ : Nat → Nat) : Prop where
  ta : w.rowIs TB 3 n (intRow g)
  touch : ∀ j, j < n → g j = (acc τ χ n j : Int)
  ai : w.rowIs IB 3 n (intRow h)
  item : ∀ (m x : Nat), (flat τ χ n nt)[m]? = some x → h m = (x : Int)
  st : w.rowIs SB 3 (nt + 1) (intRow s)
  start : ∀ u, u ≤ nt → s u = (cum τ χ n u : Int)

section
variable {w wr : World} {n nt TB IB SB : Nat} {g h s : Nat → Int} {τ χ : Nat → Nat}

theorem AccOut.below (H : AccOut w n nt TB IB SB g h s τ χ) (hb : Below w.heap.size w wr) : AccOut wr n nt TB IB SB g h s τ χ :=
  ⟨H.ta.of_block (hb.block _ H.ta.lt), H.touch, H.ai.of_block (hb.block _ H.ai.lt), H.item, H.st.of_block (hb.block _ H.st.lt), H.start⟩

theorem AccOut.startCell (H : AccOut w n nt TB IB SB g h s τ χ) {u : Nat} (hu : u ≤ nt) : w.cell? ⟨SB, u, none⟩ = some (.int .i64 ((cum τ χ n u : Nat) : Int)) := by
  rw [H.st.cell (by omega)]
  unfold intRow
  rw [H.start u hu]
theorem AccOut.touchCell (H : AccOut w n nt TB IB SB g h s τ χ) {j : Nat} (hj : j < n) : w.cell? ⟨TB, j, none⟩ = some (.int .i64 ((acc τ χ n j : Nat) : Int)) := by
  rw [H.ta.cell hj]
  unfold intRow
  rw [H.touch j hj]
theorem AccOut.itemCell (H : AccOut w n nt TB IB SB g h s τ χ) {m x : Nat} (hm : m < n) (hx : (flat τ χ n nt)[m]? = some x) : w.cell? ⟨IB, m, none⟩ = some (.int .i64 (x : Int)) := by
  rw [H.ai.cell hm]
  unfold intRow
  rw [H.item m x hx]

end

theorem not_in_take {l : List Nat} (hnd : l.Nodup) {k x : Nat} (h : l[k]? = some x) : x ∉ l.take k := by
  have e : l.take (k + 1) = l.take k ++ [x] := by rw [List.take_add_one, h]; rfl
  have h2 : (l.take (k + 1)).Nodup := hnd.sublist (List.take_sublist _ _)
  rw [e, List.nodup_append] at h2
  exact fun hm => h2.2.2 x hm x (by simp) rfl

theorem below_drewN {B : Nat} {w wr : World} (h : Below B w wr) (m : Nat) : Below B w (wr.drewN m) := ⟨h.os, h.tape, h.output, h.size, h.block⟩

set_option maxHeartbeats 8000000 in
set_option maxRecDepth 100000 in
theorem check13 (ib ns n n2 nt items c0 c1 c2 : Nat) (A0 A1 A2 : Option Addr) (b0 o0 b1 o1 b2 o2 : Nat) (P τ χ : Nat → Nat) (TB IB SB : Nat) (g h s : Nat → Int) (w : World)
    (hA : AccIn w ib ns n n2 nt items A0 A1 A2 b0 o0 b1 o1 b2 o2 P τ χ) (hO : AccOut w n nt TB IB SB g h s τ χ) (hn : n ≤ 65536) (hnt : nt ≤ 65536) (hit : items ≤ 65536) :
    Calls Try.prog 13 #[.slice A0 ns c0, .slice A1 n c1, .slice A2 n2 c2, .int .i64 (nt : Int), .int .i64 (items : Int), .slice (some ⟨TB, 0, none⟩) n n, .slice (some ⟨IB, 0, none⟩) (cum τ χ n nt) n, .slice (some ⟨SB, 0, none⟩) (nt + 1) (nt + 1)] w
      fun e w' => e = .returned (.bool true) ∧ Below w.heap.size w w' := by
  have HA := hid hA
  have HO := hid hO
  have hcn := cum_le τ χ (n := n) HA.out.txnLt (Nat.le_refl nt)
  have hs0 : w.cell? ⟨SB, 0, none⟩ = some (.int .i64 0) := hO.startCell (u := 0) (Nat.zero_le _)
  have hsn := hO.startCell (u := nt) (Nat.le_refl _)
  clear hA hO
  go_enter Try.func13, Try.ntmps13
  go_wp2
  clear hs0 hsn
  go_loopw [18] (fun i wr => ∃ t : Nat, t ≤ nt ∧ i = .int .i64 t ∧ Below w.heap.size w wr) (fun i _ => nt - (intOf i).toNat)
  case atStart => exact ⟨0, Nat.zero_le _, rfl, Below.refl _ _⟩
  case round =>
    obtain ⟨t, ht, rfl, hb⟩ := hrel
    have HB := hid hb
    by_cases hlt : t < nt
    · have h1 := (HO.out.below hb).startCell (u := t) (by omega)
      have h2 := (HO.out.below hb).startCell (u := t + 1) (by omega)
      have h3 := cum_mono τ χ (n := n) (show t ≤ t + 1 by omega)
      have h4 := cum_le τ χ (n := n) HA.out.txnLt (show t + 1 ≤ nt by omega)
      have e1 : ((t : Int) + 1).toNat = t + 1 := by omega
      have e2 : (0 : Int) ≤ (t : Int) + 1 := by omega
      have e3 : (t : Int) + 1 < ((nt + 1 : Nat) : Int) := by omega
      have e4 : (t : Int) < ((nt + 1 : Nat) : Int) := by omega
      clear hb
      go_wp2
      go_quiet (fail)
      go_wp2
      go_roundw
      case rel => exact ⟨t + 1, by omega, by go_num, below_drewN HB.out _⟩
      case measure => simp [intOf]; omega
    · have hmk := run_make_row' (P := Try.prog) 22 3 (.int .i64 0) 8 Try.underlying22 Try.info3 rfl .i64 .i64 items (by omega) (by omega)
      have hszw := hb.size
      clear hb
      go_wp2
      clear hmk
      obtain ⟨wa, hwa⟩ : ∃ wa : World, wa = wr := ⟨_, rfl⟩
      rw [← hwa] at HB hszw ⊢
      clear hwa wr
      go_loopw [20] (fun i wr => ∃ (u : Nat) (f : Nat → Int), u ≤ nt ∧ i = .int .i64 u ∧ wr.rowIs wa.heap.size 3 items (intRow f) ∧ (∀ x, x < items → f x ≤ (u : Int)) ∧ Below w.heap.size w wr) (fun i _ => nt - (intOf i).toNat)
      case atStart => exact ⟨0, fun _ => 0, Nat.zero_le _, rfl, World.rowIs_made wa _ items 3, fun x hx => Int.le_refl _, HB.out.alloc hszw _⟩
      case round =>
        obtain ⟨u, f, hu, rfl, hrow, hf, hb⟩ := hrel
        have HR := hid hrow
        have HF := hid hf
        have HB2 := hid hb
        clear hf HB
        by_cases hun : u < nt
        · have hsu := (HO.out.below hb).startCell (u := u) (by omega)
          clear hrow hb
          go_wp2
          clear hsu
          obtain ⟨wu, hwu⟩ : ∃ wu : World, wu = wr := ⟨_, rfl⟩
          rw [← hwu] at HR HB2 ⊢
          clear hwu wr
          go_loopw [21] (fun i wr => ∃ (k : Nat) (f : Nat → Int), k ≤ (its τ χ u n).length ∧ i = .int .i64 ((cum τ χ n u + k : Nat) : Int) ∧ wr.rowIs wa.heap.size 3 items (intRow f) ∧ (∀ x, x < items → (x ∈ (its τ χ u n).take k → f x = (u : Int) + 1) ∧ (x ∉ (its τ χ u n).take k → f x ≤ (u : Int))) ∧ Below w.heap.size w wr)
            (fun i _ => cum τ χ n (u + 1) - (intOf i).toNat)
          case atStart => exact ⟨0, f, Nat.zero_le _, rfl, HR.out, fun x hx => ⟨fun h => by simp at h, fun _ => HF.out x hx⟩, HB2.out⟩
          case round =>
            obtain ⟨k, f2, hk, rfl, hrow2, hf2, hb2⟩ := hrel
            have HR2 := hid hrow2
            have HF2 := hid hf2
            have HB3 := hid hb2
            clear hf2 HR HF HB2
            have hcu : cum τ χ n (u + 1) = cum τ χ n u + (its τ χ u n).length := rfl
            have HCU := hid hcu
            have hcl := cum_le τ χ (n := n) HA.out.txnLt (show u + 1 ≤ nt by omega)
            have hsu1 := (HO.out.below hb2).startCell (u := u + 1) (by omega)
            have e1 : ((u : Int) + 1).toNat = u + 1 := by omega
            rw [hcu] at hcl hsu1
            clear hcu
            by_cases hkn : k < (its τ χ u n).length
            · obtain ⟨x, hx⟩ : ∃ x, (its τ χ u n)[k]? = some x := ⟨_, List.getElem?_eq_getElem hkn⟩
              have hxm : x ∈ its τ χ u n := List.mem_of_getElem? hx
              obtain ⟨j, hj1, hj2, hj3⟩ := its_item τ χ hxm
              have hxi : x < items := by rw [← hj3]; exact HA.out.itemLt j hj1
              have hfl : (flat τ χ n nt)[cum τ χ n u + k]? = some x := by
                rw [flat_get τ χ hun k hkn]
                rw [List.getElem?_eq_getElem hkn] at hx
                exact hx
              have hic := (HO.out.below hb2).itemCell (show cum τ χ n u + k < n by omega) hfl
              have hnot : x ∉ (its τ χ u n).take k := not_in_take (dd_nodup ((lst τ u n).map χ)) hx
              have hfx := (HF2.out x hxi).2 hnot
              have hec := hrow2.cell hxi
              have hef := hrow2.frozen x
              unfold intRow at hec
              have hne : (f2 x == (u : Int) + 1) = false := by rw [beq_eq_false_iff_ne]; omega
              have hcnt : cum τ χ n u + k < cum τ χ n nt := by
                have h1 := cum_mono τ χ (n := n) (show u + 1 ≤ nt by omega)
                have := HCU.out
                omega
              have HX := hid hx
              clear hx hxm hj1 hj2 hj3 hfl hnot hfx hrow2 hb2
              go_wp2
              go_roundw
              case rel =>
                refine ⟨k + 1, upd f2 x ((u : Int) + 1), by omega, by go_num, intRow_set HR2.out x _, fun y hy => ?_, HB3.out.setCell hszw _⟩
                have htk : y ∈ (its τ χ u n).take (k + 1) ↔ (y ∈ (its τ χ u n).take k ∨ y = x) := by
                  rw [List.take_add_one, HX.out]; simp
                by_cases e : y = x
                · subst e
                  exact ⟨fun _ => upd_same _ _ _, fun hh => absurd (htk.2 (Or.inr rfl)) hh⟩
                · rw [upd_other _ e]
                  exact ⟨fun hh => (HF2.out y hy).1 ((htk.1 hh).resolve_right e), fun hh => (HF2.out y hy).2 fun h5 => hh (htk.2 (Or.inl h5))⟩
              case measure => simp [intOf]; rw [HCU.out]; omega
            · clear hrow2 hb2
              go_wp2
              go_roundw
              case rel =>
                refine ⟨u + 1, f2, by omega, by go_num, HR2.out, fun x hx => ?_, HB3.out⟩
                by_cases hm : x ∈ (its τ χ u n).take k
                · rw [(HF2.out x hx).1 hm]; omega
                · have := (HF2.out x hx).2 hm; omega
              case measure => simp [intOf]; omega
        · have hmk := run_make_row' (P := Try.prog) 22 3 (.int .i64 0) 8 Try.underlying22 Try.info3 rfl .i64 .i64 nt (by omega) (by omega)
          have hszb := hb.size
          clear hrow hb
          go_wp2
          clear hmk
          obtain ⟨wb, hwb⟩ : ∃ wb : World, wb = wr := ⟨_, rfl⟩
          rw [← hwb] at HB2 hszb ⊢
          clear hwb wr HR HF
          go_loopw [24] (fun i wr => ∃ (v : Nat) (p : Nat → Int), v ≤ nt ∧ i = .int .i64 v ∧ wr.rowIs wb.heap.size 3 nt (intRow p) ∧ (∀ y, y < v → p y = (cum τ χ n y : Int)) ∧ Below w.heap.size w wr) (fun i _ => nt - (intOf i).toNat)
          case atStart => exact ⟨0, fun _ => 0, Nat.zero_le _, rfl, World.rowIs_made wb _ nt 3, fun y hy => by omega, HB2.out.alloc hszb _⟩
          case round =>
            obtain ⟨v, p, hv, rfl, hrow, hp, hb⟩ := hrel
            have HR := hid hrow
            have HP := hid hp
            have HB3 := hid hb
            clear hp HB2
            by_cases hvn : v < nt
            · have hsv := (HO.out.below hb).startCell (u := v) (by omega)
              have hvc := hrow.cell hvn
              have hvf := hrow.frozen v
              unfold intRow at hvc
              clear hrow hb
              go_wp2
              go_roundw
              case rel =>
                refine ⟨v + 1, _, by omega, by go_num, intRow_set HR.out v _, fun y hy => ?_, HB3.out.setCell hszb _⟩
                by_cases e : y = v
                · subst e; rw [upd_same]
                · rw [upd_other _ e]; exact HP.out y (by omega)
              case measure => simp [intOf]; omega
            · have HP2 : Hid (∀ y, y < nt → p y = ((cum τ χ n y + (its τ χ y 0).length : Nat) : Int)) := fun y hy => by
                rw [HP.out y (by omega)]
                simp [its, lst, dd]
              clear hrow hb HP
              go_wp2
              obtain ⟨wc, hwc⟩ : ∃ wc : World, wc = wr := ⟨_, rfl⟩
              rw [← hwc] at HB3 HR ⊢
              clear hwc wr
              go_loopw [25] (fun i wr => ∃ (j : Nat) (p : Nat → Int), j ≤ n ∧ i = .int .i64 j ∧ wr.rowIs wb.heap.size 3 nt (intRow p) ∧ (∀ y, y < nt → p y = ((cum τ χ n y + (its τ χ y j).length : Nat) : Int)) ∧ Below w.heap.size w wr) (fun i _ => n - (intOf i).toNat)
              case atStart => exact ⟨0, p, Nat.zero_le _, rfl, HR.out, HP2.out, HB3.out⟩
              case round =>
                obtain ⟨j, p2, hj, rfl, hrow, hp, hb⟩ := hrel
                have HR2 := hid hrow
                have HP := hid hp
                have HB4 := hid hb
                clear hp HB3 HR HP2
                by_cases hjn : j < n
                · have HG := hid (HA.out.grown (grown_of_below hb (some ib)))
                  have hix1 := fun w => run_indexAt_any (P := Try.prog) 22 3 A1 n c1 b1 o1 1 Try.underlying22 size3 (fun _ => HA.out.at1 (by omega)) j hjn w
                  have hix0 := fun w => run_indexAt_any (P := Try.prog) 22 3 A0 ns c0 b0 o0 1 Try.underlying22 size3 (fun _ => HA.out.at0 (by omega)) (P j) (HA.out.stepLt j hjn) w
                  have hix2 := fun w => run_indexAt_any (P := Try.prog) 22 3 A2 n2 c2 b2 o2 1 Try.underlying22 size3 (fun _ => HA.out.at2 (by omega)) j (by have := HA.out.more; omega) w
                  have q1 := HG.out.step j hjn
                  have q0 := HG.out.txn j hjn
                  have q2 := HG.out.item j hjn
                  have htj := HA.out.txnLt j hjn
                  have q3 := (HO.out.below hb).touchCell hjn
                  have q4 := (HO.out.below hb).startCell (u := τ j) (by omega)
                  have q5 := (HO.out.below hb).startCell (u := τ j + 1) (by omega)
                  have hacl := acc_lt τ χ hjn
                  have hcb := cum_le τ χ (n := n) HA.out.txnLt (show τ j + 1 ≤ nt by omega)
                  have hcm := cum_mono τ χ (n := n) (show τ j + 1 ≤ nt by omega)
                  have q6 := (HO.out.below hb).itemCell (show acc τ χ n j < n by omega) (acc_item τ χ hjn htj)
                  have q7 := hrow.cell htj
                  have q8 := hrow.frozen (τ j)
                  unfold intRow at q7
                  rw [HP.out (τ j) htj] at q7
                  have hil : (its τ χ (τ j) j).length ≤ (its τ χ (τ j) n).length := by
                    obtain ⟨r, hr⟩ := its_split τ χ (t := τ j) (show j ≤ n by omega)
                    rw [hr]; simp
                  have hcx : cum τ χ n (τ j + 1) = cum τ χ n (τ j) + (its τ χ (τ j) n).length := rfl
                  have hbd : cum τ χ n (τ j) + (its τ χ (τ j) j).length ≤ n := by omega
                  obtain ⟨ha1, ha2⟩ := hacl
                  have e1 : ((τ j : Int) + 1).toNat = τ j + 1 := by omega
                  have i1 : (acc τ χ n j : Int) < ((cum τ χ n nt : Nat) : Int) := by omega
                  have i2 : (0 : Int) ≤ (acc τ χ n j : Int) := by omega
                  have i3 : (j : Int) < (n2 : Int) := by have := HA.out.more; omega
                  clear hcx hil hrow hb HG hcm
                  by_cases hmet : χ j ∈ its τ χ (τ j) j
                  · have hlt5 := acc_met τ χ hjn hmet
                    have hne : ((acc τ χ n j : Int) == ((cum τ χ n (τ j) + (its τ χ (τ j) j).length : Nat) : Int)) = false := by rw [beq_eq_false_iff_ne]; omega
                    have HE : Hid (∀ y, y < nt → p2 y = ((cum τ χ n y + (its τ χ y (j + 1)).length : Nat) : Int)) := fun y hy => by
                      rw [HP.out y hy]
                      by_cases e : τ j = y
                      · subst e; rw [its_succ τ χ rfl, if_pos hmet]
                      · rw [its_succ_other τ χ e]
                    clear hmet
                    go_wp2
                    go_quiet (fail)
                    go_wp2
                    go_roundw
                    case rel => exact ⟨j + 1, p2, by omega, by go_num, HR2.out, HE.out, below_drewN HB4.out _⟩
                    case measure => simp [intOf]; omega
                  · have heq5 := acc_new τ χ hjn hmet
                    have heq : ((acc τ χ n j : Int) == ((cum τ χ n (τ j) + (its τ χ (τ j) j).length : Nat) : Int)) = true := by rw [beq_iff_eq, heq5]
                    have HE : Hid (∀ y, y < nt → upd p2 (τ j) (((cum τ χ n (τ j) : Nat) : Int) + ((its τ χ (τ j) j).length : Int) + 1) y = ((cum τ χ n y + (its τ χ y (j + 1)).length : Nat) : Int)) := fun y hy => by
                      by_cases e : y = τ j
                      · subst e
                        rw [upd_same, its_succ τ χ rfl, if_neg hmet, List.length_append, List.length_singleton]
                        omega
                      · rw [upd_other _ e, HP.out y hy, its_succ_other τ χ (fun g => e g.symm)]
                    clear heq5 hmet
                    go_wp2
                    go_quiet (fail)
                    go_wp2
                    go_roundw
                    case rel => exact ⟨j + 1, _, by omega, by go_num, intRow_set (w := wr.drewN _) HR2.out (τ j) _, HE.out, (below_drewN HB4.out _).setCell hszb _⟩
                    case measure => simp [intOf]; omega
                · obtain rfl : j = n := by omega
                  clear hrow hb
                  go_wp2
                  go_loopw [28] (fun i wr2 => ∃ z : Nat, z ≤ nt ∧ i = .int .i64 z ∧ wr2.rowIs wb.heap.size 3 nt (intRow p2) ∧ Below w.heap.size w wr2) (fun i _ => nt - (intOf i).toNat)
                  case atStart => exact ⟨0, Nat.zero_le _, rfl, HR2.out, HB4.out⟩
                  case round =>
                    obtain ⟨z, hz, rfl, hrow, hb⟩ := hrel
                    have HR3 := hid hrow
                    have HB5 := hid hb
                    clear HB4 HR2
                    by_cases hzn : z < nt
                    · have q4 := (HO.out.below hb).startCell (u := z + 1) (by omega)
                      have hcx : cum τ χ j (z + 1) = cum τ χ j z + (its τ χ z j).length := rfl
                      rw [hcx] at q4
                      have q7 := hrow.cell hzn
                      unfold intRow at q7
                      rw [HP.out z hzn] at q7
                      have e1 : ((z : Int) + 1).toNat = z + 1 := by omega
                      have e2 : (0 : Int) ≤ (z : Int) + 1 := by omega
                      have e3 : (z : Int) + 1 < ((nt + 1 : Nat) : Int) := by omega
                      clear hcx hrow hb
                      go_wp2
                      go_quiet (fail)
                      go_wp2
                      go_roundw
                      case rel => exact ⟨z + 1, by omega, by go_num, HR3.out, below_drewN HB5.out _⟩
                      case measure => simp [intOf]; omega
                    · clear hrow hb
                      go_wp2
                      go_ret
                      exact ⟨rfl, HB5.out⟩
end Go.Proofs.Qxb6601772a
