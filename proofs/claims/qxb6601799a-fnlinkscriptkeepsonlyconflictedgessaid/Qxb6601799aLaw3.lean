import Derived.Test.Qxb6601799aMinus
namespace Go.Proofs.Qxb6601799a
open Go.ChangeShapes Go.WideShapes Go.ChangeAt Go.RowKit

theorem first_same {T : Nat → Int} {W : Nat → Bool} {wr : Bool} {k : Nat} (h : W k ≠ wr) (u : Nat) : firstOf T W wr (k + 1) u = firstOf T W wr k u := by
  simp [firstOf, h]
theorem last_same {T : Nat → Int} {W : Nat → Bool} {wr : Bool} {k : Nat} (h : W k ≠ wr) (u : Nat) : lastOf T W wr (k + 1) u = lastOf T W wr k u := by
  simp [lastOf, h]
theorem first_new {T : Nat → Int} {W : Nat → Bool} {wr : Bool} {k u : Nat} (h : W k = wr) (ht : T k = (u : Int)) (hl : firstOf T W wr k u < 0) (v : Nat) : firstOf T W wr (k + 1) v = if v = u then (k : Int) else firstOf T W wr k v := by
  simp only [firstOf]
  by_cases e : v = u
  · subst e; rw [if_pos ⟨h, ht, hl⟩, if_pos rfl]
  · rw [if_neg (by rintro ⟨_, h2, _⟩; rw [ht] at h2; exact e (by omega)), if_neg e]
theorem first_old {T : Nat → Int} {W : Nat → Bool} {wr : Bool} {k u : Nat} (ht : T k = (u : Int)) (hl : ¬ firstOf T W wr k u < 0) (v : Nat) : firstOf T W wr (k + 1) v = firstOf T W wr k v := by
  simp only [firstOf]
  rw [if_neg]
  rintro ⟨_, h2, h3⟩
  rw [ht] at h2
  have : v = u := by omega
  subst this
  exact hl h3
theorem last_new {T : Nat → Int} {W : Nat → Bool} {wr : Bool} {k u : Nat} (h : W k = wr) (ht : T k = (u : Int)) (v : Nat) : lastOf T W wr (k + 1) v = if v = u then (k : Int) else lastOf T W wr k v := by
  simp only [lastOf]
  by_cases e : v = u
  · subst e; rw [if_pos ⟨h, ht⟩, if_pos rfl]
  · rw [if_neg (by rintro ⟨_, h2⟩; rw [ht] at h2; exact e (by omega)), if_neg e]

set_option maxRecDepth 100000 in
set_option maxHeartbeats 6400000 in
theorem law3 (N : Int) (A : Option Addr) (m c b off : Nat) (T : Nat → Int) (W : Nat → Bool) (w : World) (hI : ScriptAt w A m b off T W) :
    Calls Try.prog 3 #[.int .i64 N, .slice A m c] w fun e w' => e = .returned (.bool true) ∧ Below w.heap.size w w' := by
  have HI := hid hI
  have hlen := hI.len
  unfold maxLen at hlen
  clear hI
  go_enter Try.func3, Try.ntmps3
  go_wp2_with fail
  refine (bytes5_contract N A m c HI.out.len w).mono ?_
  rintro e w1 ⟨rfl, hw⟩
  obtain rfl := hw.symm
  by_cases hm : m ≤ 65536
  · have hm2 : decide (m ≤ 1048576) = true := decide_eq_true (by omega)
    rw [hm2]
    by_cases hN : 0 ≤ N ∧ N ≤ 65536
    · obtain ⟨n, rfl⟩ : ∃ n : Nat, N = (n : Int) := ⟨N.toNat, by omega⟩
      have hn : n ≤ 65536 := by omega
      have hd1 : decide ((65536 : Int) < (m : Int)) = false := decide_eq_false (by omega)
      have hd2 : decide ((n : Int) < 0) = false := decide_eq_false (by omega)
      have hd3 : decide ((65536 : Int) < (n : Int)) = false := decide_eq_false (by omega)
      go_wp2_with fail
      go_loop [5] (fun i => ∃ k : Nat, k ≤ m ∧ i = .int .i64 k ∧ ∀ j, j < k → 0 ≤ T j ∧ T j < n) (fun i => m - (intOf i).toNat)
      case atStart => exact ⟨0, Nat.zero_le _, rfl, fun j hj => by omega⟩
      case round =>
        obtain ⟨k, hk, rfl, hok⟩ := hrel
        have HK := hid hok
        clear hok
        by_cases hlt : k < m
        · have hix := fun w => run_indexAt_any (P := Try.prog) 22 25 A m c b off 2 Try.underlying22 size25 HI.out.at0 k hlt w
          have hc0 := HI.out.txn k hlt
          have hrg := HI.out.range k hlt
          by_cases h0 : T k < 0
          · have hd0 : decide (T k < 0) = true := decide_eq_true h0
            go_wp2
            go_ret
            exact ⟨rfl, Below.refl _ _⟩
          · by_cases h1 : (n : Int) ≤ T k
            · have hd1 : decide ((n : Int) ≤ T k) = true := decide_eq_true h1
              go_wp2
              go_ret
              exact ⟨rfl, Below.refl _ _⟩
            · go_wp2
              go_round
              case rel => exact ⟨k + 1, by omega, by go_num, fun j hj => by
                by_cases e : j = k
                · subst e; omega
                · exact HK.out j (by omega)⟩
              case measure => simp [intOf]; omega
        · have hke : m = k := by omega
          subst hke
          go_wp2_with fail
          refine (newWalked_contract n (by omega) w).mono ?_
          rintro e w1 ⟨rfl, hw1⟩
          have HW1 := hid hw1
          clear hw1
          go_wp2_with fail
          refine (newKey_contract w1).mono ?_
          rintro e w2 ⟨rfl, hw2⟩
          have hsz : w1.heap.size = w.heap.size + 2 := by rw [HW1.out]; simp
          have hL0 : Hid (LMS w.heap.size w w2 w.heap.size (w.heap.size + 1) (w.heap.size + 2) n (runs T W 0)) := by
            rw [hw2, HW1.out]; exact ⟨_, _, LM.start w n⟩
          have hle : w.heap.size ≤ w2.heap.size := hL0.out.low.size
          rw [hsz]
          clear HW1 hw2 hsz
          go_wp2_with fail
          refine (minus_contract n hn w2).mono ?_
          rintro e w3 ⟨rfl, hg3, hs3, hr3⟩
          have H3 := hid (And.intro hg3 hr3)
          clear hg3 hr3
          go_wp2_with fail
          refine (minus_contract n hn w3).mono ?_
          rintro e w4 ⟨rfl, hg4, hs4, hr4⟩
          have H4 := hid (And.intro hg4 hr4)
          clear hg4 hr4
          go_wp2_with fail
          refine (minus_contract n hn w4).mono ?_
          rintro e w5 ⟨rfl, hg5, hs5, hr5⟩
          have H5 := hid (And.intro hg5 hr5)
          clear hg5 hr5
          go_wp2_with fail
          refine (minus_contract n hn w5).mono ?_
          rintro e w6 ⟨rfl, hg6, hs6, hr6⟩
          have hL3 : Hid (L3 w w6 n T W (runs T W 0) (firstOf T W true 0) (lastOf T W true 0) (firstOf T W false 0) (lastOf T W false 0) w2.heap.size) := by
            obtain ⟨hg3, hr3⟩ := H3.out
            obtain ⟨hg4, hr4⟩ := H4.out
            obtain ⟨hg5, hr5⟩ := H5.out
            refine ⟨(((hL0.out.grown0 hg3).grown0 hg4).grown0 hg5).grown0 hg6, hle, ?_, ?_, ?_, ?_⟩
            · exact ((hr3.of_block (hg4.block _ hr3.lt (by simp))).of_block (hg5.block _ (by omega) (by simp))).of_block (hg6.block _ (by omega) (by simp))
            · have := (hr4.of_block (hg5.block _ hr4.lt (by simp))).of_block (hg6.block _ (by omega) (by simp))
              rw [hs3] at this; exact this
            · have := hr5.of_block (hg6.block _ hr5.lt (by simp))
              rw [hs4, hs3] at this; exact this
            · have := hr6
              rw [hs5, hs4, hs3] at this; exact this
          rw [hs5, hs4, hs3]
          clear hL0 H3 H4 H5 hg6 hr6 hs6 hs5 hs4 hs3
          obtain ⟨d, hde⟩ : ∃ d : Nat, d = w2.heap.size := ⟨_, rfl⟩
          rw [← hde] at hL3 ⊢
          rw [← hde] at hle
          clear hde
          go_wp2_with fail
          go_loopw [15, 12, 13, 14] (fun i rs ws wl wr => ∃ k : Nat, k ≤ m ∧ i = .int .i64 k ∧ rs = .int .i64 ((cnt W false k : Nat) : Int) ∧ ws = .int .i64 ((cnt W true k : Nat) : Int) ∧ wl = .int .i32 (runs T W k).lw ∧
            L3 w wr n T W (runs T W k) (firstOf T W true k) (lastOf T W true k) (firstOf T W false k) (lastOf T W false k) d) (fun i _ _ _ _ => m - (intOf i).toNat)
          case atStart => exact ⟨0, Nat.zero_le _, rfl, rfl, rfl, rfl, hL3.out⟩
          case round =>
            clear hL3
            obtain ⟨k, hk, rfl, rfl, rfl, rfl, hL⟩ := hrel
            have HL := hid hL
            clear hL
            have hc1k := cnt_le (W := W) true k
            have hc2k := cnt_le (W := W) false k
            by_cases hlt : k < m
            · have hix := fun w => run_indexAt_any (P := Try.prog) 22 25 A m c b off 2 Try.underlying22 size25 HI.out.at0 k hlt w
              have hlow := HI.out.low (by omega)
              have hTk := HK.out k hlt
              obtain ⟨u, hu⟩ : ∃ u : Nat, T k = (u : Int) := ⟨(T k).toNat, by omega⟩
              have hc0 : wr.cell? ⟨b, off + k * 2, none⟩ = some (.int .i32 (u : Int)) := by rw [← hu]; exact (HL.out.lms.low.cell hlow).trans (HI.out.txn k hlt)
              have hc1 : wr.cell? ⟨b, off + k * 2 + 1, none⟩ = some (.bool (W k)) := (HL.out.lms.low.cell hlow).trans (HI.out.write k hlt)
              have hun : u < n := by omega
              have hlwr := hid (lw_range (W := W) HK.out k (by omega))
              have hrdr := hid (rd_range (W := W) HK.out k (by omega))
              have hzl := hid (fun (line : Int) => zlink_contract HL.out.lms (u : Int) (by omega) hlwr.out.1 hlwr.out.2
                (fun x hx => by have := out_len (T := T) (W := W) x k; omega) (by have := rd_len (T := T) (W := W) k; omega) hrdr.out (k : Int) line 0 0 (W k) false)
              have HU := hid hu
              clear hu hTk
              go_wp2_with fail
              refine (hzl.out _).mono ?_
              rintro e w3 ⟨⟨v, rfl⟩, h3, h4⟩
              have H3 : Hid (L3 w w3 n T W (runs T W (k + 1)) (firstOf T W true k) (lastOf T W true k) (firstOf T W false k) (lastOf T W false k) d) := by
                refine HL.out.kept ?_ h4
                have := h3
                rw [← HU.out] at this
                exact this
              have hc3 : w3.cell? ⟨b, off + k * 2 + 1, none⟩ = some (.bool (W k)) := (h3.low.cell hlow).trans (HI.out.write k hlt)
              clear h3 h4 hzl HL hc0 hc1 hlwr hrdr
              cases ew : W k with
              | true =>
                rw [ew] at hc3
                have hcf := H3.out.fw.cell hun
                have hff := H3.out.fw.frozen u
                have hcl := H3.out.la.cell hun
                have hfl := H3.out.la.frozen u
                have EW := hid ew
                clear ew
                by_cases hneg : firstOf T W true k u < 0
                · have hdn : decide (firstOf T W true k u < 0) = true := decide_eq_true hneg
                  go_wp2
                  go_roundw
                  case rel =>
                    have hn1 : W k ≠ false := by rw [EW.out]; decide
                    refine ⟨k + 1, by omega, by go_num, ?_, ?_, ?_, ((H3.out.set1 u _).set2 u _).congr (fun v hv => ?_) (fun v hv => ?_) (fun v hv => ?_) (fun v hv => ?_)⟩
                    · simp [cnt, EW.out]
                    · simp [cnt, EW.out]
                    · rw [runs_lw_w EW.out, HU.out]
                    · rw [first_new EW.out HU.out hneg]
                    · rw [last_new EW.out HU.out]
                    · rw [first_same hn1]
                    · rw [last_same hn1]
                  case measure => simp [intOf]; omega
                · have hdn : decide (firstOf T W true k u < 0) = false := decide_eq_false hneg
                  go_wp2
                  go_roundw
                  case rel =>
                    have hn1 : W k ≠ false := by rw [EW.out]; decide
                    refine ⟨k + 1, by omega, by go_num, ?_, ?_, ?_, (H3.out.set2 u _).congr (fun v hv => ?_) (fun v hv => ?_) (fun v hv => ?_) (fun v hv => ?_)⟩
                    · simp [cnt, EW.out]
                    · simp [cnt, EW.out]
                    · rw [runs_lw_w EW.out, HU.out]
                    · rw [first_old HU.out (by omega)]
                    · rw [last_new EW.out HU.out]
                    · rw [first_same hn1]
                    · rw [last_same hn1]
                  case measure => simp [intOf]; omega
              | false =>
                rw [ew] at hc3
                have hcf := H3.out.fr.cell hun
                have hff := H3.out.fr.frozen u
                have hcl := H3.out.lr.cell hun
                have hfl := H3.out.lr.frozen u
                have EW := hid ew
                clear ew
                by_cases hneg : firstOf T W false k u < 0
                · have hdn : decide (firstOf T W false k u < 0) = true := decide_eq_true hneg
                  go_wp2
                  go_roundw
                  case rel =>
                    have hn1 : W k ≠ true := by rw [EW.out]; decide
                    refine ⟨k + 1, by omega, by go_num, ?_, ?_, ?_, ((H3.out.set3 u _).set4 u _).congr (fun v hv => ?_) (fun v hv => ?_) (fun v hv => ?_) (fun v hv => ?_)⟩
                    · simp [cnt, EW.out]
                    · simp [cnt, EW.out]
                    · rw [runs_lw_r EW.out]
                    · rw [first_same hn1]
                    · rw [last_same hn1]
                    · rw [first_new EW.out HU.out hneg]
                    · rw [last_new EW.out HU.out]
                  case measure => simp [intOf]; omega
                · have hdn : decide (firstOf T W false k u < 0) = false := decide_eq_false hneg
                  go_wp2
                  go_roundw
                  case rel =>
                    have hn1 : W k ≠ true := by rw [EW.out]; decide
                    refine ⟨k + 1, by omega, by go_num, ?_, ?_, ?_, (H3.out.set4 u _).congr (fun v hv => ?_) (fun v hv => ?_) (fun v hv => ?_) (fun v hv => ?_)⟩
                    · simp [cnt, EW.out]
                    · simp [cnt, EW.out]
                    · rw [runs_lw_r EW.out]
                    · rw [first_same hn1]
                    · rw [last_same hn1]
                    · rw [first_old HU.out (by omega)]
                    · rw [last_new EW.out HU.out]
                  case measure => simp [intOf]; omega
            · have hke : m = k := by omega
              subst hke
              have htot := tot_runs (T := T) (W := W) n m
              have hea := hid (fun (u : Nat) (e : Int × Int) (he : e ∈ (runs T W m).out u) => edge_asked (W := W) HK.out he)
              obtain ⟨s, hse⟩ : ∃ s, s = runs T W m := ⟨_, rfl⟩
              obtain ⟨a1, ha1⟩ : ∃ a, a = firstOf T W true m := ⟨_, rfl⟩
              obtain ⟨a2, ha2⟩ : ∃ a, a = lastOf T W true m := ⟨_, rfl⟩
              obtain ⟨a3, ha3⟩ : ∃ a, a = firstOf T W false m := ⟨_, rfl⟩
              obtain ⟨a4, ha4⟩ : ∃ a, a = lastOf T W false m := ⟨_, rfl⟩
              rw [← hse, ← ha1, ← ha2, ← ha3, ← ha4] at HL
              rw [← hse, ← ha1, ← ha2, ← ha3, ← ha4] at hea
              rw [← hse] at htot ⊢
              obtain ⟨cw, hcw⟩ : ∃ c, c = cnt W true m := ⟨_, rfl⟩
              obtain ⟨cr, hcr⟩ : ∃ c, c = cnt W false m := ⟨_, rfl⟩
              rw [← hcw, ← hcr] at htot ⊢
              rw [← hcw] at hc1k
              rw [← hcr] at hc2k
              have htot' : tot s.out n ≤ cw + 2 * cr := by omega
              clear hse ha1 ha2 ha3 ha4 hcw hcr htot
              obtain ⟨V, RV, hLM⟩ := HL.out.lms
              have HM := hid hLM
              clear hLM
              go_wp2_with fail
              refine (graphLen_contract HM.out).mono ?_
              rintro e w1 ⟨rfl, hw⟩
              obtain rfl := hw.symm
              go_wp2_with fail
              refine (lastWriter_contract HM.out).mono ?_
              rintro e w1 ⟨rfl, hw⟩
              obtain rfl := hw.symm
              go_wp2_with fail
              clear HM
              go_loopw [18, 17] (fun i t wx => ∃ u : Nat, u ≤ n ∧ i = .int .i64 u ∧ t = .int .i64 ((tot s.out u : Nat) : Int) ∧ L3 w wx n T W s a1 a2 a3 a4 d) (fun i _ _ => n - (intOf i).toNat)
              case atStart => exact ⟨0, Nat.zero_le _, rfl, rfl, HL.out⟩
              case round =>
                clear HL
                obtain ⟨u, hu, rfl, rfl, hL⟩ := hrel
                have HL := hid hL
                clear hL
                have hmono := tot_mono s.out hu
                by_cases hun : u < n
                · have hmono2 : tot s.out u + (s.out u).length ≤ tot s.out n := tot_mono s.out (a := u + 1) (b := n) hun
                  obtain ⟨V, RV, hLM⟩ := HL.out.lms
                  have HM := hid hLM
                  clear hLM
                  go_wp2_with fail
                  refine (outLen_contract HM.out hun).mono ?_
                  rintro e w1 ⟨rfl, hw⟩
                  obtain rfl := hw.symm
                  clear HM
                  go_wp2_with fail
                  go_loopw [20] (fun i wx => ∃ j : Nat, j ≤ (s.out u).length ∧ i = .int .i64 j ∧ L3 w wx n T W s a1 a2 a3 a4 d) (fun i _ => (s.out u).length - (intOf i).toNat)
                  case atStart => exact ⟨0, Nat.zero_le _, rfl, HL.out⟩
                  case round =>
                    clear HL
                    obtain ⟨j, hj, rfl, hL⟩ := hrel
                    have HL := hid hL
                    clear hL
                    by_cases hjl : j < (s.out u).length
                    · obtain ⟨e, he⟩ : ∃ e, (s.out u)[j]? = some e := ⟨(s.out u)[j], by simp⟩
                      obtain ⟨v, hv, hvn, hvu, hkind⟩ := hea.out u e (List.mem_of_getElem? he)
                      have HE := hid he
                      obtain ⟨e1, e2⟩ := e
                      simp only at hv hkind
                      subst hv
                      clear he
                      have q1 := HL.out.fw.cell hun
                      have q2 := HL.out.la.cell hvn
                      have q3 := HL.out.fr.cell hun
                      have q4 := HL.out.lr.cell hvn
                      obtain ⟨V, RV, hLM⟩ := HL.out.lms
                      have HM := hid hLM
                      clear hLM
                      have hvb : ((v : Int) == (u : Int)) = false := by simp; omega
                      go_wp2_with fail
                      refine (outTo_contract HM.out hun HE.out).mono ?_
                      rintro e w1 ⟨rfl, hw⟩
                      obtain rfl := hw.symm
                      go_wp2_with fail
                      refine (outKind_contract HM.out hun HE.out).mono ?_
                      rintro e w1 ⟨rfl, hw⟩
                      obtain rfl := hw.symm
                      clear HM HE
                      simp only
                      rcases hkind with ⟨rfl, h1, h2⟩ | ⟨rfl, h1, h2⟩ | ⟨rfl, h1, h2⟩
                      · clear q3 q4
                        have hdf : decide (a1 u < 0) = false := decide_eq_false (by omega)
                        have hdl : decide (a2 v ≤ a1 u) = false := decide_eq_false (by omega)
                        go_wp2_with fail
                        go_quiet (fail)
                        go_wp2
                        go_roundw
                        case rel => exact ⟨j + 1, by omega, by go_num, HL.out.drewN _⟩
                        case measure => simp [intOf]; omega
                      · clear q2 q3
                        have hdf : decide (a1 u < 0) = false := decide_eq_false (by omega)
                        have hdl : decide (a4 v ≤ a1 u) = false := decide_eq_false (by omega)
                        go_wp2_with fail
                        go_quiet (fail)
                        go_wp2
                        go_roundw
                        case rel => exact ⟨j + 1, by omega, by go_num, HL.out.drewN _⟩
                        case measure => simp [intOf]; omega
                      · clear q1 q4
                        have hdf : decide (a3 u < 0) = false := decide_eq_false (by omega)
                        have hdl : decide (a2 v ≤ a3 u) = false := decide_eq_false (by omega)
                        go_wp2_with fail
                        go_quiet (fail)
                        go_wp2
                        go_roundw
                        case rel => exact ⟨j + 1, by omega, by go_num, HL.out.drewN _⟩
                        case measure => simp [intOf]; omega
                    · have hje : (s.out u).length = j := by omega
                      subst hje
                      go_wp2
                      go_roundw
                      case rel => exact ⟨u + 1, by omega, by go_num, by simp [tot], HL.out⟩
                      case measure => simp [intOf]; omega
                · have hue : n = u := by omega
                  subst hue
                  have hdt : decide (((tot s.out n : Nat) : Int) ≤ (cw : Int) + 2 * (cr : Int)) = true := decide_eq_true (by omega)
                  go_wp2
                  go_ret
                  exact ⟨by simp, HL.out.lms.low⟩
    · by_cases hN0 : N < 0
      · have hd1 : decide ((65536 : Int) < (m : Int)) = false := decide_eq_false (by omega)
        have hd2 : decide (N < 0) = true := decide_eq_true hN0
        go_wp2
        go_ret
        exact ⟨rfl, Below.refl _ _⟩
      · have hd1 : decide ((65536 : Int) < (m : Int)) = false := decide_eq_false (by omega)
        have hd2 : decide (N < 0) = false := decide_eq_false hN0
        have hd3 : decide ((65536 : Int) < N) = true := decide_eq_true (by omega)
        go_wp2
        go_ret
        exact ⟨rfl, Below.refl _ _⟩
  · by_cases hm2 : m ≤ 1048576
    · have hd0 : decide (m ≤ 1048576) = true := decide_eq_true hm2
      rw [hd0]
      have hd1 : decide ((65536 : Int) < (m : Int)) = true := decide_eq_true (by omega)
      go_wp2
      go_ret
      exact ⟨rfl, Below.refl _ _⟩
    · have hd0 : decide (m ≤ 1048576) = false := decide_eq_false hm2
      rw [hd0]
      go_wp2
      go_ret
      exact ⟨rfl, Below.refl _ _⟩
end Go.Proofs.Qxb6601799a
