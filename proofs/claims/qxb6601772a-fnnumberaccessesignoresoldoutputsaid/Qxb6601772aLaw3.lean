import Derived.Test.Qxb6601772aParts
namespace Go.Proofs.Qxb6601772a
open Go.ChangeShapes Go.WideShapes Go.ChangeAt Go.RowKit Go.Deep

/-- a clone, as a slice of its own -/
theorem Cloned.row {w w' : World} {A : Option Addr} {n : Nat} {t : TypeId} {q : IntKind} {f : Nat → Int} {e : Ending} (h : Cloned w A n t (fun i => .int q (f i)) e w') :
    ∃ A' b', e = .returned (.slice A' n n) ∧ RowAt w' A' n b' 0 q f ∧ Below w.heap.size w w' := by
  obtain ⟨A', b', he, hr, _, hb⟩ := h
  refine ⟨A', b', he, ⟨fun hn => (hr hn).1, fun i hi => ?_, fun hn => (hr hn).2.1.lt⟩, hb⟩
  rw [Nat.zero_add]
  exact (hr (by omega)).2.1.cell hi

theorem acc_in {w : World} {ib ns n n2 nt b0 b1 b2 : Nat} {items : Nat} {A0 A1 A2 : Option Addr} {f0 f1 f2 : Nat → Int} (R0 : RowAt w A0 ns b0 0 .i64 f0) (R1 : RowAt w A1 n b1 0 .i64 f1) (R2 : RowAt w A2 n2 b2 0 .i64 f2)
    (hd : InDom ns n n2 (nt : Int) (items : Int) f0 f1 f2) (hib : 0 < n → b0 ≠ ib ∧ b1 ≠ ib ∧ b2 ≠ ib) :
    AccIn w ib ns n n2 nt items A0 A1 A2 b0 0 b1 0 b2 0 (fun i => (f1 i).toNat) (fun i => (f0 (f1 i).toNat).toNat) (fun i => (f2 i).toNat) where
  at0 := fun h => R0.at0 (by have := hd.2 0 h; omega)
  at1 := R1.at0
  at2 := fun h => R2.at0 (by have := hd.1; omega)
  step := fun i hi => by
    have := hd.2 i hi
    rw [R1.cell i hi, show ((f1 i).toNat : Int) = f1 i from by omega]
  stepLt := fun i hi => by have := hd.2 i hi; omega
  txn := fun i hi => by
    have := hd.2 i hi
    rw [R0.cell (f1 i).toNat (by omega), show ((f0 (f1 i).toNat).toNat : Int) = f0 (f1 i).toNat from by omega]
  txnLt := fun i hi => by have := hd.2 i hi; omega
  item := fun i hi => by
    have := hd.2 i hi
    have := hd.1
    rw [R2.cell i (by omega), show ((f2 i).toNat : Int) = f2 i from by omega]
  itemLt := fun i hi => by have := hd.2 i hi; omega
  more := hd.1
  low := fun h => ⟨R0.low (by have := hd.2 0 h; omega), R1.low h, R2.low (by have := hd.1; omega)⟩
  off := hib

theorem Numbered.out {w w' : World} {ib n nt : Nat} {v0 v1 v2 v6 v7 v8 v9 v10 v11 : Value} {τ χ : Nat → Nat} (h : Numbered w w' ib n nt v0 v1 v2 v6 v7 v8 v9 v10 v11 τ χ) :
    ∃ (TB IB SB : Nat) (g h s : Nat → Int), w'.heap[ib]? = some (.cells #[v0, v1, v2, .slice (some ⟨TB, 0, none⟩) n n, .slice (some ⟨IB, 0, none⟩) (cum τ χ n nt) n, .slice (some ⟨SB, 0, none⟩) (nt + 1) (nt + 1), v6, v7, v8, v9, v10, v11] 65 (0, 0)) ∧
      AccOut w' n nt TB IB SB g h s τ χ ∧ w.grownBy w' (some ib) ∧ w.heap.size ≤ TB ∧ w.heap.size ≤ IB ∧ w.heap.size ≤ SB := by
  obtain ⟨TB, IB, SB, g, h, s, hbox, h1, h2, h3, h4, h5, h6, h7, h8, h9, h10⟩ := h
  exact ⟨TB, IB, SB, g, h, s, hbox, ⟨h1, h2, h3, h4, h5, h6⟩, h7, h8, h9, h10⟩

theorem AccOut.drewN {w : World} {n nt TB IB SB : Nat} {g h s : Nat → Int} {τ χ : Nat → Nat} (H : AccOut w n nt TB IB SB g h s τ χ) (m : Nat) : AccOut (w.drewN m) n nt TB IB SB g h s τ χ := ⟨H.ta, H.touch, H.ai, H.item, H.st, H.start⟩
theorem AccIn.drewN {w : World} {ib ns n n2 nt items : Nat} {A0 A1 A2 : Option Addr} {b0 o0 b1 o1 b2 o2 : Nat} {P τ χ : Nat → Nat} (H : AccIn w ib ns n n2 nt items A0 A1 A2 b0 o0 b1 o1 b2 o2 P τ χ) (m : Nat) :
    AccIn (w.drewN m) ib ns n n2 nt items A0 A1 A2 b0 o0 b1 o1 b2 o2 P τ χ := ⟨H.at0, H.at1, H.at2, H.step, H.stepLt, H.txn, H.txnLt, H.item, H.itemLt, H.more, H.low, H.off⟩

set_option maxHeartbeats 4000000 in
theorem law3 (A0 A1 A2 A3 : Option Addr) (ns c0 n c1 n2 c2 nt c3 b0 o0 b1 o1 b2 o2 b3 o3 : Nat) (f0 f1 f2 f3 : Nat → Int) (items : Int) (w : World) (R0 : RowAt w A0 ns b0 o0 .i64 f0) (R1 : RowAt w A1 n b1 o1 .i64 f1) (R2 : RowAt w A2 n2 b2 o2 .i64 f2) (R3 : RowAt w A3 nt b3 o3 .u64 f3)
    (z0 : A0 = none → ns = 0) (z1 : A1 = none → n = 0) (z2 : A2 = none → n2 = 0) (z3 : A3 = none → nt = 0) (m0 : ns ≤ maxLen) (m1 : n ≤ maxLen) (m2 : n2 ≤ maxLen) (m3 : nt ≤ maxLen) :
    Calls Try.prog 3 #[.slice A0 ns c0, .slice A1 n c1, .slice A2 n2 c2, .slice A3 nt c3, .int .i64 items] w fun e w' => e = .returned (.bool true) ∧ Below w.heap.size w w' := by
  have H0 := hid R0
  have H1 := hid R1
  have H2 := hid R2
  have H3 := hid R3
  have Z0 := hid z0
  have Z1 := hid z1
  have Z2 := hid z2
  have Z3 := hid z3
  clear R0 R1 R2 R3 z0 z1 z2 z3
  have hm0 := m0
  have hm1 := m1
  have hm2 := m2
  have hm3 := m3
  unfold maxLen at hm0 hm1 hm2 hm3
  go_enter Try.func3, Try.ntmps3
  go_wp2_with fail
  refine (bytes6 A0 A1 A2 A3 ns c0 n c1 n2 c2 nt c3 items m0 m1 m2 m3 _).mono ?_
  rintro e w' ⟨⟨r, rfl⟩, rfl⟩
  clear m0 m1 m2 m3
  cases r with
  | false =>
    go_wp2
    go_ret
    exact ⟨rfl, Below.refl _ _⟩
  | true =>
    by_cases h1 : ns ≤ 65536
    · by_cases h2 : n ≤ 65536
      · by_cases h3 : n2 ≤ 65536
        · by_cases h4 : nt ≤ 65536
          · by_cases h5 : 8 * (ns + n + n2 + nt) ≤ 1048576
            · by_cases h6 : items < 0
              · go_wp2
                go_ret
                exact ⟨rfl, Below.refl _ _⟩
              · by_cases h7 : 65536 < items
                · have h6' : 0 ≤ items := by omega
                  clear h6
                  go_wp2
                  go_ret
                  exact ⟨rfl, Below.refl _ _⟩
                · obtain ⟨it, rfl⟩ := Int.eq_ofNat_of_zero_le (show 0 ≤ items by omega)
                  have hit : it ≤ 65536 := by omega
                  clear h6 h7
                  go_wp2_with fail
                  refine (dom7 A0 A1 A2 ns c0 n c1 n2 c2 b0 o0 b1 o1 b2 o2 nt it f0 f1 f2 _ H0.out.ints H1.out.ints H2.out.ints h2).mono ?_
                  rintro e w' ⟨⟨r, rfl, hdom⟩, rfl⟩
                  cases r with
                  | false =>
                    clear hdom
                    go_wp2
                    go_ret
                    exact ⟨rfl, Below.refl _ _⟩
                  | true =>
                    have HD := hid (hdom rfl)
                    clear hdom
                    go_wp2_with fail
                    refine (clone8 A0 ns c0 b0 o0 f0 w H0.out Z0.out (by omega)).mono ?_
                    intro e w1 hc
                    obtain ⟨B0, d0, rfl, r0, g1⟩ := hc.row
                    have K1 := hid (H1.out.below g1)
                    have K2 := hid (H2.out.below g1)
                    have K3 := hid (H3.out.below g1)
                    have S0 := hid r0
                    have G1 := hid g1
                    clear hc r0 g1 H0 H1 H2 H3 Z0
                    go_wp2_with fail
                    refine (clone8 A1 n c1 b1 o1 f1 w1 K1.out Z1.out (by omega)).mono ?_
                    intro e w2 hc
                    obtain ⟨B1, d1, rfl, r1, g2⟩ := hc.row
                    have L2 := hid (K2.out.below g2)
                    have L3 := hid (K3.out.below g2)
                    have T0 := hid (S0.out.below g2)
                    have T1 := hid r1
                    have G2 : Hid (Below w.heap.size w w2) := G1.out.trans (g2.mono G1.out.size)
                    clear hc r1 g2 K1 K2 K3 Z1 S0 G1
                    go_wp2_with fail
                    refine (clone8 A2 n2 c2 b2 o2 f2 w2 L2.out Z2.out (by omega)).mono ?_
                    intro e w3 hc
                    obtain ⟨B2, d2, rfl, r2, g3⟩ := hc.row
                    have M3 := hid (L3.out.below g3)
                    have U0 := hid (T0.out.below g3)
                    have U1 := hid (T1.out.below g3)
                    have U2 := hid r2
                    have G3 : Hid (Below w.heap.size w w3) := G2.out.trans (g3.mono G2.out.size)
                    clear hc r2 g3 L2 L3 Z2 T0 T1 G2
                    go_wp2_with fail
                    refine (clone9 A3 nt c3 b3 o3 f3 w3 M3.out Z3.out (by omega)).mono ?_
                    intro e w4 hc
                    obtain ⟨B3, d3, rfl, r3, g4⟩ := hc.row
                    have V0 := hid (U0.out.below g4)
                    have V1 := hid (U1.out.below g4)
                    have V2 := hid (U2.out.below g4)
                    have G4 : Hid (Below w.heap.size w w4) := G3.out.trans (g4.mono G3.out.size)
                    clear hc r3 g4 M3 Z3 U0 U1 U2 G3
                    go_wp2_with fail
                    refine (new10 B0 B1 B2 B3 ns ns n n n2 n2 nt nt it w4).mono ?_
                    rintro e w5 ⟨ib, rfl, hib, hbox, g5⟩
                    have HA : Hid (AccIn w5 ib ns n n2 nt it B0 B1 B2 d0 0 d1 0 d2 0 (fun i => (f1 i).toNat) (fun i => (f0 (f1 i).toNat).toNat) (fun i => (f2 i).toNat)) :=
                      acc_in (V0.out.below g5) (V1.out.below g5) (V2.out.below g5) HD.out (fun h => by
                        have q0 := V0.out.low (by have := HD.out.2 0 h; omega)
                        have q1 := V1.out.low h
                        have q2 := V2.out.low (by have := HD.out.1; omega)
                        omega)
                    have G5 : Hid (Below w.heap.size w w5) := G4.out.trans (g5.mono G4.out.size)
                    have hwib : w.heap.size ≤ ib := Nat.le_trans G4.out.size hib
                    have HX := hid hbox
                    clear V0 V1 V2 G4 g5 hbox HD
                    go_wp2_with fail
                    refine (num11 ib ns n n2 nt it ns n n2 nt B0 B1 B2 B3 d0 0 d1 0 d2 0 _ _ _ none none none 0 0 0 0 0 0 _ _ _ _ w5 HA.out h2 h4 hit HX.out).mono ?_
                    rintro e w6 ⟨rfl, hN⟩
                    obtain ⟨TB, IB, SB, g, h, s, hbox6, hout, hgr, -, -, -⟩ := hN.out
                    have HO := hid hout
                    have HA6 := hid (HA.out.grown hgr)
                    have G6 : Hid (Below w.heap.size w w6) := G5.out.grown hgr G5.out.size (fun k hk => by cases hk; exact hwib)
                    have b3' : w6.cell? ⟨ib, 3, none⟩ = some (.slice (some ⟨TB, 0, none⟩) n n) := by simp [World.cell?, hbox6]
                    have b4' : w6.cell? ⟨ib, 4, none⟩ = some (.slice (some ⟨IB, 0, none⟩) (cum (fun i => (f0 (f1 i).toNat).toNat) (fun i => (f2 i).toNat) n nt) n) := by simp [World.cell?, hbox6]
                    have b5' : w6.cell? ⟨ib, 5, none⟩ = some (.slice (some ⟨SB, 0, none⟩) (nt + 1) (nt + 1)) := by simp [World.cell?, hbox6]
                    have P3 := hid b3'
                    have P4 := hid b4'
                    have P5 := hid b5'
                    clear hN hout hgr hbox6 b3' b4' b5' HA G5 HX
                    go_wp2_with fail
                    refine (out12 ib _ _ _ w6 P3.out P4.out P5.out).mono ?_
                    rintro e w7 ⟨rfl, m, rfl⟩
                    go_wp2_with fail
                    refine (check13 ib ns n n2 nt it ns n n2 B0 B1 B2 d0 0 d1 0 d2 0 _ _ _ TB IB SB g h s _ (HA6.out.drewN m) (HO.out.drewN m) h2 h4 hit).mono ?_
                    rintro e w8 ⟨rfl, g8⟩
                    have G8 : Hid (Below w.heap.size w w8) := (below_drewN G6.out m).trans (g8.mono (by simpa using G6.out.size))
                    clear g8
                    go_wp2
                    go_ret
                    exact ⟨rfl, G8.out⟩
            · go_wp2
              go_ret
              exact ⟨rfl, Below.refl _ _⟩
          · go_wp2
            go_ret
            exact ⟨rfl, Below.refl _ _⟩
        · go_wp2
          go_ret
          exact ⟨rfl, Below.refl _ _⟩
      · go_wp2
        go_ret
        exact ⟨rfl, Below.refl _ _⟩
    · go_wp2
      go_ret
      exact ⟨rfl, Below.refl _ _⟩
end Go.Proofs.Qxb6601772a
