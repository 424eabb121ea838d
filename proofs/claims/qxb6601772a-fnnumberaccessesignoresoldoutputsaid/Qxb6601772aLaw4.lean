import Derived.Test.Qxb6601772aLaw3
namespace Go.Proofs.Qxb6601772a
open Go.ChangeShapes Go.WideShapes Go.ChangeAt Go.RowKit Go.Deep

set_option maxHeartbeats 1600000 in
theorem bytes14 (A0 A1 A2 A3 A5 A6 A7 : Option Addr) (n0 c0 n1 c1 n2 c2 n3 c3 n5 c5 n6 c6 n7 c7 : Nat) (x : Int) (h0 : n0 ≤ maxLen) (h1 : n1 ≤ maxLen) (h2 : n2 ≤ maxLen) (h3 : n3 ≤ maxLen) (h5 : n5 ≤ maxLen) (h6 : n6 ≤ maxLen) (h7 : n7 ≤ maxLen) (w : World) :
    Calls Try.prog 14 #[.slice A0 n0 c0, .slice A1 n1 c1, .slice A2 n2 c2, .slice A3 n3 c3, .int .i64 x, .slice A5 n5 c5, .slice A6 n6 c6, .slice A7 n7 c7] w fun e w' => Ans e ∧ w = w' := by
  unfold maxLen at h0 h1 h2 h3 h5 h6 h7
  go_enter Try.func14, Try.ntmps14
  go_wp2
  all_goals go_ret
  all_goals exact ⟨ans _, rfl⟩

theorem AccOut.grown {w w' : World} {n nt TB IB SB ib : Nat} {g h s : Nat → Int} {τ χ : Nat → Nat} (H : AccOut w n nt TB IB SB g h s τ χ) (hg : w.grownBy w' (some ib)) (h1 : TB ≠ ib) (h2 : IB ≠ ib) (h3 : SB ≠ ib) : AccOut w' n nt TB IB SB g h s τ χ :=
  ⟨H.ta.of_block (hg.block _ H.ta.lt (by simpa using h1)), H.touch, H.ai.of_block (hg.block _ H.ai.lt (by simpa using h2)), H.item, H.st.of_block (hg.block _ H.st.lt (by simpa using h3)), H.start⟩

theorem RowAt.grown {w w' : World} {A : Option Addr} {n b off ib : Nat} {q : IntKind} {f : Nat → Int} (h : RowAt w A n b off q f) (hg : w.grownBy w' (some ib)) (hne : 0 < n → b ≠ ib) : RowAt w' A n b off q f :=
  ⟨h.at0, fun i hi => hg.cell (h.cell i hi) (by have := hne (by omega); simpa using this), fun hn => Nat.lt_of_lt_of_le (h.low hn) hg.size⟩
theorem RowAt.drewN {w : World} {A : Option Addr} {n b off : Nat} {q : IntKind} {f : Nat → Int} (h : RowAt w A n b off q f) (m : Nat) : RowAt (w.drewN m) A n b off q f := ⟨h.at0, h.cell, h.low⟩

/-- the three results as slices of ints -/
theorem AccOut.ints {w : World} {n nt TB IB SB : Nat} {g h s : Nat → Int} {τ χ : Nat → Nat} (H : AccOut w n nt TB IB SB g h s τ χ) (hc : cum τ χ n nt ≤ n) :
    IntsAt w (some ⟨TB, 0, none⟩) n TB 0 (fun j => (acc τ χ n j : Int)) ∧ IntsAt w (some ⟨IB, 0, none⟩) (cum τ χ n nt) IB 0 (fun m => (((flat τ χ n nt)[m]?).getD 0 : Nat)) ∧ IntsAt w (some ⟨SB, 0, none⟩) (nt + 1) SB 0 (fun u => (cum τ χ n u : Int)) := by
  refine ⟨⟨fun _ => rfl, fun i hi => ?_⟩, ⟨fun _ => rfl, fun i hi => ?_⟩, ⟨fun _ => rfl, fun i hi => ?_⟩⟩
  · rw [Nat.zero_add]; exact H.touchCell hi
  · rw [Nat.zero_add]
    have hl : i < (flat τ χ n nt).length := by rw [flat_len]; exact hi
    rw [H.itemCell (by omega) (List.getElem?_eq_getElem hl), List.getElem?_eq_getElem hl]
    rfl
  · rw [Nat.zero_add]; exact H.startCell (by omega)

theorem IntsAt.drewNs {w : World} {A : Option Addr} {n b off : Nat} {f : Nat → Int} (h : IntsAt w A n b off f) (m : Nat) : IntsAt (w.drewN m) A n b off f := ⟨h.at0, h.cell⟩

set_option maxHeartbeats 16000000 in
set_option maxRecDepth 100000 in
theorem law4 (A0 A1 A2 A3 A5 A6 A7 : Option Addr) (ns c0 n c1 n2 c2 nt c3 n5 c5 n6 c6 n7 c7 b0 o0 b1 o1 b2 o2 b3 o3 b5 o5 b6 o6 b7 o7 : Nat) (f0 f1 f2 f3 f5 f6 f7 : Nat → Int) (items : Int) (w : World) (R0 : RowAt w A0 ns b0 o0 .i64 f0) (R1 : RowAt w A1 n b1 o1 .i64 f1) (R2 : RowAt w A2 n2 b2 o2 .i64 f2) (R3 : RowAt w A3 nt b3 o3 .u64 f3)
    (R5 : RowAt w A5 n5 b5 o5 .i64 f5) (R6 : RowAt w A6 n6 b6 o6 .i64 f6) (R7 : RowAt w A7 n7 b7 o7 .i64 f7)
    (z0 : A0 = none → ns = 0) (z1 : A1 = none → n = 0) (z2 : A2 = none → n2 = 0) (z3 : A3 = none → nt = 0) (z5 : A5 = none → n5 = 0) (z6 : A6 = none → n6 = 0) (z7 : A7 = none → n7 = 0) (m0 : ns ≤ maxLen) (m1 : n ≤ maxLen) (m2 : n2 ≤ maxLen) (m3 : nt ≤ maxLen) (m5 : n5 ≤ maxLen) (m6 : n6 ≤ maxLen) (m7 : n7 ≤ maxLen) :
    Calls Try.prog 4 #[.slice A0 ns c0, .slice A1 n c1, .slice A2 n2 c2, .slice A3 nt c3, .int .i64 items, .slice A5 n5 c5, .slice A6 n6 c6, .slice A7 n7 c7] w fun e w' => e = .returned (.bool true) ∧ Below w.heap.size w w' := by
  have H0 := hid R0
  have H1 := hid R1
  have H2 := hid R2
  have H3 := hid R3
  have H5 := hid R5
  have H6 := hid R6
  have H7 := hid R7
  have Z0 := hid z0
  have Z1 := hid z1
  have Z2 := hid z2
  have Z3 := hid z3
  have Z5 := hid z5
  have Z6 := hid z6
  have Z7 := hid z7
  clear R0 R1 R2 R3 R5 R6 R7 z0 z1 z2 z3 z5 z6 z7
  have hm0 := m0
  have hm1 := m1
  have hm2 := m2
  have hm3 := m3
  have hm5 := m5
  have hm6 := m6
  have hm7 := m7
  unfold maxLen at hm0 hm1 hm2 hm3 hm5 hm6 hm7
  go_enter Try.func4, Try.ntmps4
  go_wp2_with fail
  refine (bytes14 A0 A1 A2 A3 A5 A6 A7 ns c0 n c1 n2 c2 nt c3 n5 c5 n6 c6 n7 c7 items m0 m1 m2 m3 m5 m6 m7 _).mono ?_
  rintro e w' ⟨⟨r, rfl⟩, rfl⟩
  clear m0 m1 m2 m3 m5 m6 m7
  cases r with
  | false =>
    go_wp2
    go_ret
    exact ⟨rfl, Below.refl _ _⟩
  | true =>
    by_cases t0 : ns ≤ 65536
    rotate_left
    · go_wp2
      go_ret
      exact ⟨rfl, Below.refl _ _⟩
    by_cases t1 : n ≤ 65536
    rotate_left
    · go_wp2
      go_ret
      exact ⟨rfl, Below.refl _ _⟩
    by_cases t2 : n2 ≤ 65536
    rotate_left
    · go_wp2
      go_ret
      exact ⟨rfl, Below.refl _ _⟩
    by_cases t3 : nt ≤ 65536
    rotate_left
    · go_wp2
      go_ret
      exact ⟨rfl, Below.refl _ _⟩
    by_cases t5 : n5 ≤ 65536
    rotate_left
    · go_wp2
      go_ret
      exact ⟨rfl, Below.refl _ _⟩
    by_cases t6 : n6 ≤ 65536
    rotate_left
    · go_wp2
      go_ret
      exact ⟨rfl, Below.refl _ _⟩
    by_cases t7 : n7 ≤ 65536
    rotate_left
    · go_wp2
      go_ret
      exact ⟨rfl, Below.refl _ _⟩
    by_cases t8 : 8 * (ns + n + n2 + nt + n5 + n6 + n7) ≤ 1048576
    rotate_left
    · go_wp2
      go_ret
      exact ⟨rfl, Below.refl _ _⟩
    by_cases h6 : items < 0
    · go_wp2
      go_ret
      exact ⟨rfl, Below.refl _ _⟩
    by_cases h7 : 65536 < items
    · have h6' : 0 ≤ items := by omega
      clear h6
      go_wp2
      go_ret
      exact ⟨rfl, Below.refl _ _⟩
    obtain ⟨it, rfl⟩ := Int.eq_ofNat_of_zero_le (show 0 ≤ items by omega)
    have hit : it ≤ 65536 := by omega
    clear h6 h7
    go_wp2_with fail
    refine (dom7 A0 A1 A2 ns c0 n c1 n2 c2 b0 o0 b1 o1 b2 o2 nt it f0 f1 f2 _ H0.out.ints H1.out.ints H2.out.ints t1).mono ?_
    rintro e w' ⟨⟨r, rfl, hdom⟩, rfl⟩
    cases r with
    | false =>
      clear hdom
      go_wp2
      go_ret
      exact ⟨rfl, Below.refl _ _⟩
    | true =>
      have HD := hid (hdom rfl)
      clear hdom
      have G := hid (Below.refl w.heap.size w)
      go_wp2_with fail
      refine (clone8 A0 ns c0 b0 o0 f0 w H0.out Z0.out (by omega)).mono ?_
      intro e x0 hc
      obtain ⟨B0, d0, rfl, r0, gk⟩ := hc.row
      replace H1 := hid (H1.out.below gk)
      replace H2 := hid (H2.out.below gk)
      replace H3 := hid (H3.out.below gk)
      replace H5 := hid (H5.out.below gk)
      replace H6 := hid (H6.out.below gk)
      replace H7 := hid (H7.out.below gk)
      have S0 := hid r0
      replace G : Hid (Below w.heap.size w x0) := G.out.trans (gk.mono G.out.size)
      clear hc r0 gk H0 Z0
      go_wp2_with fail
      refine (clone8 A1 n c1 b1 o1 f1 x0 H1.out Z1.out (by omega)).mono ?_
      intro e x1 hc
      obtain ⟨B1, d1, rfl, r1, gk⟩ := hc.row
      replace H2 := hid (H2.out.below gk)
      replace H3 := hid (H3.out.below gk)
      replace H5 := hid (H5.out.below gk)
      replace H6 := hid (H6.out.below gk)
      replace H7 := hid (H7.out.below gk)
      replace S0 := hid (S0.out.below gk)
      have S1 := hid r1
      replace G : Hid (Below w.heap.size w x1) := G.out.trans (gk.mono G.out.size)
      clear hc r1 gk H1 Z1
      go_wp2_with fail
      refine (clone8 A2 n2 c2 b2 o2 f2 x1 H2.out Z2.out (by omega)).mono ?_
      intro e x2 hc
      obtain ⟨B2, d2, rfl, r2, gk⟩ := hc.row
      replace H3 := hid (H3.out.below gk)
      replace H5 := hid (H5.out.below gk)
      replace H6 := hid (H6.out.below gk)
      replace H7 := hid (H7.out.below gk)
      replace S0 := hid (S0.out.below gk)
      replace S1 := hid (S1.out.below gk)
      have S2 := hid r2
      replace G : Hid (Below w.heap.size w x2) := G.out.trans (gk.mono G.out.size)
      clear hc r2 gk H2 Z2
      go_wp2_with fail
      refine (clone9 A3 nt c3 b3 o3 f3 x2 H3.out Z3.out (by omega)).mono ?_
      intro e x3 hc
      obtain ⟨B3, d3, rfl, r3, gk⟩ := hc.row
      replace H5 := hid (H5.out.below gk)
      replace H6 := hid (H6.out.below gk)
      replace H7 := hid (H7.out.below gk)
      replace S0 := hid (S0.out.below gk)
      replace S1 := hid (S1.out.below gk)
      replace S2 := hid (S2.out.below gk)
      replace G : Hid (Below w.heap.size w x3) := G.out.trans (gk.mono G.out.size)
      clear hc r3 gk H3 Z3
      go_wp2_with fail
      refine (clone8 A5 n5 c5 b5 o5 f5 x3 H5.out Z5.out (by omega)).mono ?_
      intro e x5 hc
      obtain ⟨B5, d5, rfl, r5, gk⟩ := hc.row
      replace H6 := hid (H6.out.below gk)
      replace H7 := hid (H7.out.below gk)
      replace S0 := hid (S0.out.below gk)
      replace S1 := hid (S1.out.below gk)
      replace S2 := hid (S2.out.below gk)
      replace G : Hid (Below w.heap.size w x5) := G.out.trans (gk.mono G.out.size)
      clear hc r5 gk H5 Z5
      go_wp2_with fail
      refine (clone8 A6 n6 c6 b6 o6 f6 x5 H6.out Z6.out (by omega)).mono ?_
      intro e x6 hc
      obtain ⟨B6, d6, rfl, r6, gk⟩ := hc.row
      replace H7 := hid (H7.out.below gk)
      replace S0 := hid (S0.out.below gk)
      replace S1 := hid (S1.out.below gk)
      replace S2 := hid (S2.out.below gk)
      replace G : Hid (Below w.heap.size w x6) := G.out.trans (gk.mono G.out.size)
      clear hc r6 gk H6 Z6
      go_wp2_with fail
      refine (clone8 A7 n7 c7 b7 o7 f7 x6 H7.out Z7.out (by omega)).mono ?_
      intro e x7 hc
      obtain ⟨B7, d7, rfl, r7, gk⟩ := hc.row
      replace S0 := hid (S0.out.below gk)
      replace S1 := hid (S1.out.below gk)
      replace S2 := hid (S2.out.below gk)
      replace G : Hid (Below w.heap.size w x7) := G.out.trans (gk.mono G.out.size)
      clear hc r7 gk H7 Z7
      go_wp2_with fail
      refine (new15 B0 B1 B2 B3 B5 B6 B7 ns ns n n n2 n2 nt nt n5 n5 n6 n6 n7 n7 it x7).mono ?_
      rintro e y1 ⟨ia, rfl, hia, hbox, gk⟩
      have q0 : 0 < ns → d0 ≠ ia := fun h => by have := S0.out.low h; omega
      have q1 : 0 < n → d1 ≠ ia := fun h => by have := S1.out.low h; omega
      have q2 : 0 < n2 → d2 ≠ ia := fun h => by have := S2.out.low h; omega
      replace S0 := hid (S0.out.below gk)
      replace S1 := hid (S1.out.below gk)
      replace S2 := hid (S2.out.below gk)
      have HAia : Hid (AccIn y1 ia ns n n2 nt it B0 B1 B2 d0 0 d1 0 d2 0 (fun i => (f1 i).toNat) (fun i => (f0 (f1 i).toNat).toNat) (fun i => (f2 i).toNat)) :=
        acc_in S0.out S1.out S2.out HD.out (fun h => ⟨q0 (by have := HD.out.2 0 h; omega), q1 h, q2 (by have := HD.out.1; omega)⟩)
      have hwia : w.heap.size ≤ ia := Nat.le_trans G.out.size hia
      have Qia0 := hid q0
      have Qia1 := hid q1
      have Qia2 := hid q2
      have lia : ia < y1.heap.size := (Array.getElem?_eq_some_iff.1 hbox).1
      have HX := hid hbox
      replace G : Hid (Below w.heap.size w y1) := G.out.trans (gk.mono G.out.size)
      clear gk hbox q0 q1 q2
      go_wp2_with fail
      refine (num11 ia ns n n2 nt it ns n n2 nt B0 B1 B2 B3 d0 0 d1 0 d2 0 _ _ _ B5 B6 B7 n5 n5 n6 n6 n7 n7 _ _ _ _ y1 HAia.out t1 t3 hit HX.out).mono ?_
      rintro e y2 ⟨rfl, hN⟩
      obtain ⟨TBa, IBa, SBa, ga, ha, sa, hbox6, hout, hgr, hta, hia, hsa⟩ := hN.out
      have HOa := hid hout
      replace HAia := hid (HAia.out.grown hgr)
      replace G : Hid (Below w.heap.size w y2) := G.out.grown hgr G.out.size (fun k hk => by cases hk; exact hwia)
      have P3 : Hid (y2.cell? ⟨ia, 3, none⟩ = some (.slice (some ⟨TBa, 0, none⟩) n n)) := by simp [Hid, World.cell?, hbox6]
      have P4 : Hid (y2.cell? ⟨ia, 4, none⟩ = some (.slice (some ⟨IBa, 0, none⟩) (cum (fun i => (f0 (f1 i).toNat).toNat) (fun i => (f2 i).toNat) n nt) n)) := by simp [Hid, World.cell?, hbox6]
      have P5 : Hid (y2.cell? ⟨ia, 5, none⟩ = some (.slice (some ⟨SBa, 0, none⟩) (nt + 1) (nt + 1))) := by simp [Hid, World.cell?, hbox6]
      replace S0 := hid (S0.out.grown hgr Qia0.out)
      replace S1 := hid (S1.out.grown hgr Qia1.out)
      replace S2 := hid (S2.out.grown hgr Qia2.out)
      clear hN hout hgr hbox6 HX
      go_wp2_with fail
      refine (out12 ia _ _ _ y2 P3.out P4.out P5.out).mono ?_
      rintro e y3 ⟨rfl, ma, hy3⟩
      replace S0 : Hid (RowAt y3 B0 ns d0 0 .i64 f0) := by rw [hy3]; exact S0.out.drewN ma
      replace S1 : Hid (RowAt y3 B1 n d1 0 .i64 f1) := by rw [hy3]; exact S1.out.drewN ma
      replace S2 : Hid (RowAt y3 B2 n2 d2 0 .i64 f2) := by rw [hy3]; exact S2.out.drewN ma
      replace HOa : Hid (AccOut y3 n nt TBa IBa SBa ga ha sa (fun i => (f0 (f1 i).toNat).toNat) (fun i => (f2 i).toNat)) := by rw [hy3]; exact HOa.out.drewN ma
      replace G : Hid (Below w.heap.size w y3) := by rw [hy3]; exact below_drewN G.out ma
      clear hy3 P3 P4 P5 HAia
      have HOaOld := hid HOa.out
      go_wp2_with fail
      refine (new10 B0 B1 B2 B3 ns ns n n n2 n2 nt nt it y3).mono ?_
      rintro e y4 ⟨ic, rfl, hic, hbox, gk⟩
      have q0 : 0 < ns → d0 ≠ ic := fun h => by have := S0.out.low h; omega
      have q1 : 0 < n → d1 ≠ ic := fun h => by have := S1.out.low h; omega
      have q2 : 0 < n2 → d2 ≠ ic := fun h => by have := S2.out.low h; omega
      replace S0 := hid (S0.out.below gk)
      replace S1 := hid (S1.out.below gk)
      replace S2 := hid (S2.out.below gk)
      have HAic : Hid (AccIn y4 ic ns n n2 nt it B0 B1 B2 d0 0 d1 0 d2 0 (fun i => (f1 i).toNat) (fun i => (f0 (f1 i).toNat).toNat) (fun i => (f2 i).toNat)) :=
        acc_in S0.out S1.out S2.out HD.out (fun h => ⟨q0 (by have := HD.out.2 0 h; omega), q1 h, q2 (by have := HD.out.1; omega)⟩)
      have hwic : w.heap.size ≤ ic := Nat.le_trans G.out.size hic
      have Qic0 := hid q0
      have Qic1 := hid q1
      have Qic2 := hid q2
      have lic : ic < y4.heap.size := (Array.getElem?_eq_some_iff.1 hbox).1
      have HX := hid hbox
      replace HOa := hid (HOa.out.below gk)
      have na : TBa ≠ ic ∧ IBa ≠ ic ∧ SBa ≠ ic := by
        have e1 := HOaOld.out.ta.lt
        have e2 := HOaOld.out.ai.lt
        have e3 := HOaOld.out.st.lt
        omega
      replace G : Hid (Below w.heap.size w y4) := G.out.trans (gk.mono G.out.size)
      clear gk hbox q0 q1 q2 HOaOld
      go_wp2_with fail
      refine (num11 ic ns n n2 nt it ns n n2 nt B0 B1 B2 B3 d0 0 d1 0 d2 0 _ _ _ none none none 0 0 0 0 0 0 _ _ _ _ y4 HAic.out t1 t3 hit HX.out).mono ?_
      rintro e y5 ⟨rfl, hN⟩
      obtain ⟨TBb, IBb, SBb, gb, hb, sb, hbox6, hout, hgr, htb, hib, hsb⟩ := hN.out
      have HOb := hid hout
      replace HAic := hid (HAic.out.grown hgr)
      replace G : Hid (Below w.heap.size w y5) := G.out.grown hgr G.out.size (fun k hk => by cases hk; exact hwic)
      have P3 : Hid (y5.cell? ⟨ic, 3, none⟩ = some (.slice (some ⟨TBb, 0, none⟩) n n)) := by simp [Hid, World.cell?, hbox6]
      have P4 : Hid (y5.cell? ⟨ic, 4, none⟩ = some (.slice (some ⟨IBb, 0, none⟩) (cum (fun i => (f0 (f1 i).toNat).toNat) (fun i => (f2 i).toNat) n nt) n)) := by simp [Hid, World.cell?, hbox6]
      have P5 : Hid (y5.cell? ⟨ic, 5, none⟩ = some (.slice (some ⟨SBb, 0, none⟩) (nt + 1) (nt + 1))) := by simp [Hid, World.cell?, hbox6]
      replace HOa := hid (HOa.out.grown hgr na.1 na.2.1 na.2.2)
      have nb : TBb ≠ ic ∧ IBb ≠ ic ∧ SBb ≠ ic := by omega
      have HX5 := hid hbox6
      clear hN hout hgr hbox6 HX
      go_wp2_with fail
      refine (out12 ic _ _ _ y5 P3.out P4.out P5.out).mono ?_
      rintro e y6 ⟨rfl, mb, hy6⟩
      replace HOa : Hid (AccOut y6 n nt TBa IBa SBa ga ha sa (fun i => (f0 (f1 i).toNat).toNat) (fun i => (f2 i).toNat)) := by rw [hy6]; exact HOa.out.drewN mb
      replace HOb : Hid (AccOut y6 n nt TBb IBb SBb gb hb sb (fun i => (f0 (f1 i).toNat).toNat) (fun i => (f2 i).toNat)) := by rw [hy6]; exact HOb.out.drewN mb
      replace HAic : Hid (AccIn y6 ic ns n n2 nt it B0 B1 B2 d0 0 d1 0 d2 0 (fun i => (f1 i).toNat) (fun i => (f0 (f1 i).toNat).toNat) (fun i => (f2 i).toNat)) := by rw [hy6]; exact HAic.out.drewN mb
      replace G : Hid (Below w.heap.size w y6) := by rw [hy6]; exact below_drewN G.out mb
      have hh : y6.heap = y5.heap := by rw [hy6]; rfl
      have HX := HX5
      rw [← hh] at HX
      clear hh
      clear hy6 P3 P4 P5 HX5
      go_wp2_with fail
      refine (num11 ic ns n n2 nt it ns n n2 nt B0 B1 B2 B3 d0 0 d1 0 d2 0 _ _ _ (some ⟨TBb, 0, none⟩) (some ⟨IBb, 0, none⟩) (some ⟨SBb, 0, none⟩) n n _ n (nt + 1) (nt + 1) _ _ _ _ y6 HAic.out t1 t3 hit HX.out).mono ?_
      rintro e y7 ⟨rfl, hN⟩
      obtain ⟨TBc, IBc, SBc, gc, hc, sc, hbox6, hout, hgr, htc, hic, hsc⟩ := hN.out
      have HOc := hid hout
      replace HAic := hid (HAic.out.grown hgr)
      replace G : Hid (Below w.heap.size w y7) := G.out.grown hgr G.out.size (fun k hk => by cases hk; exact hwic)
      have P3 : Hid (y7.cell? ⟨ic, 3, none⟩ = some (.slice (some ⟨TBc, 0, none⟩) n n)) := by simp [Hid, World.cell?, hbox6]
      have P4 : Hid (y7.cell? ⟨ic, 4, none⟩ = some (.slice (some ⟨IBc, 0, none⟩) (cum (fun i => (f0 (f1 i).toNat).toNat) (fun i => (f2 i).toNat) n nt) n)) := by simp [Hid, World.cell?, hbox6]
      have P5 : Hid (y7.cell? ⟨ic, 5, none⟩ = some (.slice (some ⟨SBc, 0, none⟩) (nt + 1) (nt + 1))) := by simp [Hid, World.cell?, hbox6]
      replace HOa := hid (HOa.out.grown hgr na.1 na.2.1 na.2.2)
      replace HOb := hid (HOb.out.grown hgr nb.1 nb.2.1 nb.2.2)
      clear hN hout hgr hbox6 HX
      go_wp2_with fail
      refine (out12 ic _ _ _ y7 P3.out P4.out P5.out).mono ?_
      rintro e y8 ⟨rfl, mc, hy8⟩
      replace HOa : Hid (AccOut y8 n nt TBa IBa SBa ga ha sa (fun i => (f0 (f1 i).toNat).toNat) (fun i => (f2 i).toNat)) := by rw [hy8]; exact HOa.out.drewN mc
      replace HOb : Hid (AccOut y8 n nt TBb IBb SBb gb hb sb (fun i => (f0 (f1 i).toNat).toNat) (fun i => (f2 i).toNat)) := by rw [hy8]; exact HOb.out.drewN mc
      replace HOc : Hid (AccOut y8 n nt TBc IBc SBc gc hc sc (fun i => (f0 (f1 i).toNat).toNat) (fun i => (f2 i).toNat)) := by rw [hy8]; exact HOc.out.drewN mc
      replace G : Hid (Below w.heap.size w y8) := by rw [hy8]; exact below_drewN G.out mc
      have hcn : cum (fun i => (f0 (f1 i).toNat).toNat) (fun i => (f2 i).toNat) n nt ≤ n := cum_le _ _ HAic.out.txnLt (Nat.le_refl nt)
      have Ia := hid (HOa.out.ints hcn)
      have Ib := hid (HOb.out.ints hcn)
      have Ic := hid (HOc.out.ints hcn)
      clear hy8 P3 P4 P5 HAic HOa HOb HOc na nb S0 S1 S2 HD Qia0 Qia1 Qia2 Qic0 Qic1 Qic2
      clear hta hia hsa htb hib hsb htc hic hsc hwia hwic lia lic
      generalize hcu : cum (fun i => (f0 (f1 i).toNat).toNat) (fun i => (f2 i).toNat) n nt = cu at *
      clear hcu
      go_wp2_with fail
      refine (equal16 (some ⟨TBa, 0, none⟩) (some ⟨TBb, 0, none⟩) n n n TBa 0 TBb 0 _ _ (Ia.out.1) (Ib.out.1) rfl (by omega)).mono ?_
      rintro e z0 ⟨rfl, k0, rfl⟩
      go_wp2_with fail
      refine (equal16 (some ⟨IBa, 0, none⟩) (some ⟨IBb, 0, none⟩) cu n n IBa 0 IBb 0 _ _ (Ia.out.2.1.drewNs (k0)) (Ib.out.2.1.drewNs (k0)) rfl (by omega)).mono ?_
      rintro e z1 ⟨rfl, k1, rfl⟩
      go_wp2_with fail
      refine (equal16 (some ⟨SBa, 0, none⟩) (some ⟨SBb, 0, none⟩) (nt + 1) (nt + 1) (nt + 1) SBa 0 SBb 0 _ _ (Ia.out.2.2.drewNs (k0 + k1)) (Ib.out.2.2.drewNs (k0 + k1)) rfl (by omega)).mono ?_
      rintro e z2 ⟨rfl, k2, rfl⟩
      go_wp2_with fail
      refine (equal16 (some ⟨TBb, 0, none⟩) (some ⟨TBc, 0, none⟩) n n n TBb 0 TBc 0 _ _ (Ib.out.1.drewNs (k0 + k1 + k2)) (Ic.out.1.drewNs (k0 + k1 + k2)) rfl (by omega)).mono ?_
      rintro e z3 ⟨rfl, k3, rfl⟩
      go_wp2_with fail
      refine (equal16 (some ⟨IBb, 0, none⟩) (some ⟨IBc, 0, none⟩) cu n n IBb 0 IBc 0 _ _ (Ib.out.2.1.drewNs (k0 + k1 + k2 + k3)) (Ic.out.2.1.drewNs (k0 + k1 + k2 + k3)) rfl (by omega)).mono ?_
      rintro e z4 ⟨rfl, k4, rfl⟩
      go_wp2_with fail
      refine (equal16 (some ⟨SBb, 0, none⟩) (some ⟨SBc, 0, none⟩) (nt + 1) (nt + 1) (nt + 1) SBb 0 SBc 0 _ _ (Ib.out.2.2.drewNs (k0 + k1 + k2 + k3 + k4)) (Ic.out.2.2.drewNs (k0 + k1 + k2 + k3 + k4)) rfl (by omega)).mono ?_
      rintro e z5 ⟨rfl, k5, rfl⟩
      have HG : Hid (Below w.heap.size w (y8.drewN (k0 + k1 + k2 + k3 + k4 + k5))) := below_drewN G.out _
      clear G Ia Ib Ic
      go_wp2
      go_ret
      exact ⟨rfl, HG.out⟩
end Go.Proofs.Qxb6601772a
