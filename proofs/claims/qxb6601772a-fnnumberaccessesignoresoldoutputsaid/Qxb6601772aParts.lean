import Derived.Test.Qxb6601772aCheck
namespace Go.Proofs.Qxb6601772a
open Go.ChangeShapes Go.WideShapes Go.ChangeAt Go.RowKit Go.Deep

set_option maxHeartbeats 1600000 in
theorem bytes6 (A0 A1 A2 A3 : Option Addr) (n0 c0 n1 c1 n2 c2 n3 c3 : Nat) (x : Int) (h0 : n0 ≤ maxLen) (h1 : n1 ≤ maxLen) (h2 : n2 ≤ maxLen) (h3 : n3 ≤ maxLen) (w : World) :
    Calls Try.prog 6 #[.slice A0 n0 c0, .slice A1 n1 c1, .slice A2 n2 c2, .slice A3 n3 c3, .int .i64 x] w fun e w' => Ans e ∧ w = w' := by
  unfold maxLen at h0 h1 h2 h3
  go_enter Try.func6, Try.ntmps6
  go_wp2
  all_goals go_ret
  all_goals exact ⟨ans _, rfl⟩

/-- the documented domain -/
def InDom (ns n n2 : Nat) (nt items : Int) (f0 f1 f2 : Nat → Int) : Prop :=
  n ≤ n2 ∧ ∀ i, i < n → 0 ≤ f1 i ∧ f1 i < (ns : Int) ∧ 0 ≤ f0 (f1 i).toNat ∧ f0 (f1 i).toNat < nt ∧ 0 ≤ f2 i ∧ f2 i < items

/-- It answers a bool; where true, the domain holds. -/
def AnsDom (ns n n2 : Nat) (nt items : Int) (f0 f1 f2 : Nat → Int) (e : Ending) : Prop := ∃ r, e = .returned (.bool r) ∧ (r = true → InDom ns n n2 nt items f0 f1 f2)
theorem ansNo (ns n n2 : Nat) (nt items : Int) (f0 f1 f2 : Nat → Int) : AnsDom ns n n2 nt items f0 f1 f2 (.returned (.bool false)) := ⟨false, rfl, fun h => by simp at h⟩

set_option maxHeartbeats 1600000 in
theorem dom7 (A0 A1 A2 : Option Addr) (ns c0 n c1 n2 c2 b0 o0 b1 o1 b2 o2 : Nat) (nt items : Int) (f0 f1 f2 : Nat → Int) (w : World) (H0 : IntsAt w A0 ns b0 o0 f0) (H1 : IntsAt w A1 n b1 o1 f1) (H2 : IntsAt w A2 n2 b2 o2 f2) (hn : n ≤ 65536) :
    Calls Try.prog 7 #[.slice A0 ns c0, .slice A1 n c1, .slice A2 n2 c2, .int .i64 nt, .int .i64 items] w fun e w' => AnsDom ns n n2 nt items f0 f1 f2 e ∧ w = w' := by
  have HI0 := hid H0
  have HI1 := hid H1
  have HI2 := hid H2
  clear H0 H1 H2
  have HNo := hid (ansNo ns n n2 nt items f0 f1 f2)
  by_cases hnn : n ≤ n2
  · have hdd : decide ((n2 : Int) < (n : Int)) = false := decide_eq_false (by omega)
    go_enter Try.func7, Try.ntmps7
    go_wp2
    clear hdd
    go_loop [11] (fun i => ∃ k : Nat, k ≤ n ∧ i = .int .i64 k ∧ ∀ j, j < k → 0 ≤ f1 j ∧ f1 j < (ns : Int) ∧ 0 ≤ f0 (f1 j).toNat ∧ f0 (f1 j).toNat < nt ∧ 0 ≤ f2 j ∧ f2 j < items) (fun i => n - (intOf i).toNat)
    case atStart => exact ⟨0, Nat.zero_le _, rfl, fun j hj => by omega⟩
    case round =>
      obtain ⟨k, hk, rfl, hall⟩ := hrel
      have HA := hid hall
      clear hall
      by_cases hlt : k < n
      · have hix1 := fun w => run_indexAt_any (P := Try.prog) 22 3 A1 n c1 b1 o1 1 Try.underlying22 size3 HI1.out.at0 k hlt w
        have hq1 := HI1.out.cell k hlt
        by_cases h1 : f1 k < 0
        · go_wp2
          go_ret
          exact ⟨HNo.out, rfl⟩
        · by_cases h2 : (ns : Int) ≤ f1 k
          · have h1' : 0 ≤ f1 k := by omega
            go_wp2
            go_ret
            exact ⟨HNo.out, rfl⟩
          · obtain ⟨p, hp⟩ := Int.eq_ofNat_of_zero_le (show 0 ≤ f1 k by omega)
            have hpn : p < ns := by omega
            have HP := hid hp
            rw [hp] at hq1
            clear h1 h2 hp
            have hix0 := fun w => run_indexAt_any (P := Try.prog) 22 3 A0 ns c0 b0 o0 1 Try.underlying22 size3 HI0.out.at0 p hpn w
            have hq0 := HI0.out.cell p hpn
            by_cases h3 : f0 p < 0
            · go_wp2
              go_ret
              exact ⟨HNo.out, rfl⟩
            · by_cases h4 : nt ≤ f0 p
              · have h3' : 0 ≤ f0 p := by omega
                clear h3
                go_wp2
                go_ret
                exact ⟨HNo.out, rfl⟩
              · have h3' : 0 ≤ f0 p := by omega
                have h4' : f0 p < nt := by omega
                clear h3 h4
                have hix2 := fun w => run_indexAt_any (P := Try.prog) 22 3 A2 n2 c2 b2 o2 1 Try.underlying22 size3 HI2.out.at0 k (by omega) w
                have hq2 := HI2.out.cell k (by omega)
                by_cases h5 : f2 k < 0
                · go_wp2
                  go_ret
                  exact ⟨HNo.out, rfl⟩
                · by_cases h6 : items ≤ f2 k
                  · have h5' : 0 ≤ f2 k := by omega
                    clear h5
                    go_wp2
                    go_ret
                    exact ⟨HNo.out, rfl⟩
                  · have h5' : 0 ≤ f2 k := by omega
                    have h6' : f2 k < items := by omega
                    clear h5 h6
                    go_wp2
                    go_round
                    case rel =>
                      refine ⟨k + 1, by omega, by go_num, fun j hj => ?_⟩
                      by_cases e : j = k
                      · subst e
                        rw [HP.out]
                        simp only [Int.toNat_natCast]
                        exact ⟨by omega, by omega, h3', h4', h5', h6'⟩
                      · exact HA.out j (by omega)
                    case measure => simp [intOf]; omega
      · have HY : Hid (AnsDom ns n n2 nt items f0 f1 f2 (.returned (.bool true))) := ⟨true, rfl, fun _ => ⟨hnn, fun i hi => HA.out i (by omega)⟩⟩
        go_wp2
        go_ret
        exact ⟨HY.out, rfl⟩
  · go_enter Try.func7, Try.ntmps7
    go_wp2
    go_ret
    exact ⟨HNo.out, rfl⟩

/-- what is known of a slice of integers that came in -/
structure RowAt (w : World) (A : Option Addr) (n b off : Nat) (q : IntKind) (f : Nat → Int) : Prop where
  at0 : 0 < n → A = some ⟨b, off, none⟩
  cell : ∀ i, i < n → w.cell? ⟨b, off + i, none⟩ = some (.int q (f i))
  low : 0 < n → b < w.heap.size

theorem RowAt.ints {w : World} {A : Option Addr} {n b off : Nat} {f : Nat → Int} (h : RowAt w A n b off .i64 f) : IntsAt w A n b off f := ⟨h.at0, h.cell⟩
theorem RowAt.below {w w' : World} {A : Option Addr} {n b off : Nat} {q : IntKind} {f : Nat → Int} (h : RowAt w A n b off q f) (hb : Below w.heap.size w w') : RowAt w' A n b off q f :=
  ⟨h.at0, fun i hi => (hb.cell (h.low (by omega))).trans (h.cell i hi), fun hn => Nat.lt_of_lt_of_le (h.low hn) hb.size⟩

set_option maxHeartbeats 800000 in
theorem clone8 (A : Option Addr) (n c b off : Nat) (f : Nat → Int) (w : World) (hK : RowAt w A n b off .i64 f) (hnil : A = none → n = 0) (hn : n ≤ 1048576) :
    Calls Try.prog 8 #[.slice A n c] w (Cloned w A n 3 (fun i => .int .i64 (f i))) := by
  have heq := fun w => Lib.run_eql_slice_nil (P := Try.prog) w 22 3 A n c 0 0 Try.underlying22
  have HK := hid hK
  clear hK
  cases hA : A.isNone with
  | true =>
    have h0 : A = none := by simpa using hA
    obtain rfl := hnil h0
    have HC : Hid (Cloned w A 0 3 (fun i => .int .i64 (f i)) (.returned (.slice none 0 0)) w) := ⟨none, 0, rfl, fun h => by omega, by rw [hA]; rfl, Below.refl _ _⟩
    clear h0 hnil
    go_enter Try.func8, Try.ntmps8
    go_wp2
    go_ret
    exact HC.out
  | false =>
    have hmk := run_make_row' (P := Try.prog) 22 3 (.int .i64 0) 8 Try.underlying22 Try.info3 rfl .i64 .i64 n (by omega) (by omega)
    clear hnil
    go_enter Try.func8, Try.ntmps8
    go_wp2
    go_loopw [4] (fun i wr => ∃ k : Nat, k ≤ n ∧ i = .int .i64 k ∧ wr.rowIs w.heap.size 3 n (fun i => if i < k then .int .i64 (f i) else .int .i64 0) ∧ Below w.heap.size w wr) (fun i _ => n - (intOf i).toNat)
    case atStart => exact ⟨0, Nat.zero_le _, rfl, (World.rowIs_made w _ n 3).congr fun i _ => by simp, (Below.refl _ _).alloc (Nat.le_refl _) _⟩
    case round =>
      obtain ⟨k, hk, rfl, hrow, hb⟩ := hrel
      by_cases hlt : k < n
      · have hix := fun w => run_indexAt_any (P := Try.prog) 22 3 A n c b off 1 Try.underlying22 size3 HK.out.at0 k hlt w
        have hc : wr.cell? ⟨b, off + k, none⟩ = some (.int .i64 (f k)) := (hb.cell (HK.out.low (by omega))).trans (HK.out.cell k hlt)
        have hc2 := hrow.cell hlt
        have hf2 := hrow.frozen k
        have HR := hid hrow
        have HB := hid hb
        clear hrow hb
        go_wp2
        go_roundw
        case rel =>
          refine ⟨k + 1, by omega, by go_num, (HR.out.set k (.int .i64 (f k))).congr fun i hi => ?_, HB.out.setCell (Nat.le_refl _) _⟩
          by_cases e : i = k
          · subst e; simp
          · have : (i < k + 1) ↔ (i < k) := by omega
            simp [e, this]
        case measure => simp [intOf]; omega
      · have HC : Hid (Cloned w A n 3 (fun i => .int .i64 (f i)) (.returned (.slice (some ⟨w.heap.size, 0, none⟩) n n)) wr) :=
          ⟨_, _, rfl, fun _ => ⟨rfl, hrow.congr fun i hi => by rw [if_pos (by omega)], Nat.le_refl _⟩, by rw [hA]; rfl, hb⟩
        clear hrow hb
        go_wp2
        go_ret
        exact HC.out
set_option maxHeartbeats 800000 in
theorem clone9 (A : Option Addr) (n c b off : Nat) (f : Nat → Int) (w : World) (hK : RowAt w A n b off .u64 f) (hnil : A = none → n = 0) (hn : n ≤ 1048576) :
    Calls Try.prog 9 #[.slice A n c] w (Cloned w A n 40 (fun i => .int .u64 (f i))) := by
  have heq := fun w => Lib.run_eql_slice_nil (P := Try.prog) w 23 40 A n c 0 0 Try.underlying23
  have HK := hid hK
  clear hK
  cases hA : A.isNone with
  | true =>
    have h0 : A = none := by simpa using hA
    obtain rfl := hnil h0
    have HC : Hid (Cloned w A 0 40 (fun i => .int .u64 (f i)) (.returned (.slice none 0 0)) w) := ⟨none, 0, rfl, fun h => by omega, by rw [hA]; rfl, Below.refl _ _⟩
    clear h0 hnil
    go_enter Try.func9, Try.ntmps9
    go_wp2
    go_ret
    exact HC.out
  | false =>
    have hmk := run_make_row' (P := Try.prog) 23 40 (.int .u64 0) 8 Try.underlying23 Try.info40 rfl .i64 .i64 n (by omega) (by omega)
    clear hnil
    go_enter Try.func9, Try.ntmps9
    go_wp2
    go_loopw [4] (fun i wr => ∃ k : Nat, k ≤ n ∧ i = .int .i64 k ∧ wr.rowIs w.heap.size 40 n (fun i => if i < k then .int .u64 (f i) else .int .u64 0) ∧ Below w.heap.size w wr) (fun i _ => n - (intOf i).toNat)
    case atStart => exact ⟨0, Nat.zero_le _, rfl, (World.rowIs_made w _ n 40).congr fun i _ => by simp, (Below.refl _ _).alloc (Nat.le_refl _) _⟩
    case round =>
      obtain ⟨k, hk, rfl, hrow, hb⟩ := hrel
      by_cases hlt : k < n
      · have hix := fun w => run_indexAt_any (P := Try.prog) 23 40 A n c b off 1 Try.underlying23 size40 HK.out.at0 k hlt w
        have hc : wr.cell? ⟨b, off + k, none⟩ = some (.int .u64 (f k)) := (hb.cell (HK.out.low (by omega))).trans (HK.out.cell k hlt)
        have hc2 := hrow.cell hlt
        have hf2 := hrow.frozen k
        have HR := hid hrow
        have HB := hid hb
        clear hrow hb
        go_wp2
        go_roundw
        case rel =>
          refine ⟨k + 1, by omega, by go_num, (HR.out.set k (.int .u64 (f k))).congr fun i hi => ?_, HB.out.setCell (Nat.le_refl _) _⟩
          by_cases e : i = k
          · subst e; simp
          · have : (i < k + 1) ↔ (i < k) := by omega
            simp [e, this]
        case measure => simp [intOf]; omega
      · have HC : Hid (Cloned w A n 40 (fun i => .int .u64 (f i)) (.returned (.slice (some ⟨w.heap.size, 0, none⟩) n n)) wr) :=
          ⟨_, _, rfl, fun _ => ⟨rfl, hrow.congr fun i hi => by rw [if_pos (by omega)], Nat.le_refl _⟩, by rw [hA]; rfl, hb⟩
        clear hrow hb
        go_wp2
        go_ret
        exact HC.out

/-- a new index -/
def NewIx (w : World) (cs : Array Value) (e : Ending) (w' : World) : Prop :=
  ∃ ib, e = .returned (.pointer (some ⟨ib, 0, none⟩)) ∧ w.heap.size ≤ ib ∧ w'.heap[ib]? = some (.cells cs 65 (0, 0)) ∧ Below w.heap.size w w'
theorem newIx (w : World) (cs : Array Value) : NewIx w cs (.returned (.pointer (some ⟨w.heap.size, 0, none⟩))) (w.alloc (.cells cs 65)) :=
  ⟨_, rfl, Nat.le_refl _, blk_alloc_new _ _, (Below.refl _ _).alloc (Nat.le_refl _) _⟩

theorem new10 (A0 A1 A2 A3 : Option Addr) (n0 c0 n1 c1 n2 c2 n3 c3 : Nat) (x : Int) (w : World) :
    Calls Try.prog 10 #[.slice A0 n0 c0, .slice A1 n1 c1, .slice A2 n2 c2, .slice A3 n3 c3, .int .i64 x] w
      (NewIx w #[.slice A0 n0 c0, .slice A1 n1 c1, .slice A2 n2 c2, .slice none 0 0, .slice none 0 0, .slice none 0 0, .slice A3 n3 c3, .slice none 0 0, .int .i64 x, .int .i64 0, .pointer none, .slice none 0 0]) := by
  have HN := hid (newIx w #[.slice A0 n0 c0, .slice A1 n1 c1, .slice A2 n2 c2, .slice none 0 0, .slice none 0 0, .slice none 0 0, .slice A3 n3 c3, .slice none 0 0, .int .i64 x, .int .i64 0, .pointer none, .slice none 0 0])
  go_enter Try.func10, Try.ntmps10
  go_wp2
  go_ret
  exact HN.out

theorem new15 (A0 A1 A2 A3 A5 A6 A7 : Option Addr) (n0 c0 n1 c1 n2 c2 n3 c3 n5 c5 n6 c6 n7 c7 : Nat) (x : Int) (w : World) :
    Calls Try.prog 15 #[.slice A0 n0 c0, .slice A1 n1 c1, .slice A2 n2 c2, .slice A3 n3 c3, .int .i64 x, .slice A5 n5 c5, .slice A6 n6 c6, .slice A7 n7 c7] w
      (NewIx w #[.slice A0 n0 c0, .slice A1 n1 c1, .slice A2 n2 c2, .slice A5 n5 c5, .slice A6 n6 c6, .slice A7 n7 c7, .slice A3 n3 c3, .slice none 0 0, .int .i64 x, .int .i64 0, .pointer none, .slice none 0 0]) := by
  have HN := hid (newIx w #[.slice A0 n0 c0, .slice A1 n1 c1, .slice A2 n2 c2, .slice A5 n5 c5, .slice A6 n6 c6, .slice A7 n7 c7, .slice A3 n3 c3, .slice none 0 0, .int .i64 x, .int .i64 0, .pointer none, .slice none 0 0])
  go_enter Try.func15, Try.ntmps15
  go_wp2
  go_ret
  exact HN.out

/-- ZZNumberAccesses -/
theorem num11 (ib ns n n2 nt items c0 c1 c2 c6 : Nat) (A0 A1 A2 A6 : Option Addr) (b0 o0 b1 o1 b2 o2 : Nat) (P τ χ : Nat → Nat) (s3 s4 s5 : Option Addr) (l3 k3 l4 k4 l5 k5 : Nat) (v7 v9 v10 v11 : Value) (w : World)
    (hA : AccIn w ib ns n n2 nt items A0 A1 A2 b0 o0 b1 o1 b2 o2 P τ χ) (hn : n ≤ 65536) (hnt : nt ≤ 65536) (hit : items ≤ 65536)
    (hbox : w.heap[ib]? = some (.cells #[.slice A0 ns c0, .slice A1 n c1, .slice A2 n2 c2, .slice s3 l3 k3, .slice s4 l4 k4, .slice s5 l5 k5, .slice A6 nt c6, v7, .int .i64 (items : Int), v9, v10, v11] 65 (0, 0))) :
    Calls Try.prog 11 #[.pointer (some ⟨ib, 0, none⟩)] w fun e w' => e = .returned (.tuple #[]) ∧ Numbered w w' ib n nt (.slice A0 ns c0) (.slice A1 n c1) (.slice A2 n2 c2) (.slice A6 nt c6) v7 (.int .i64 (items : Int)) v9 v10 v11 τ χ := by
  have H := hid (num23 ib ns n n2 nt items c0 c1 c2 c6 A0 A1 A2 A6 b0 o0 b1 o1 b2 o2 P τ χ s3 s4 s5 l3 k3 l4 k4 l5 k5 v7 v9 v10 v11 w hA hn hnt hit hbox)
  clear hA hbox
  go_enter Try.func11, Try.ntmps11
  go_wp2_with fail
  refine H.out.mono ?_
  rintro e w' ⟨rfl, hN⟩
  have HN := hid hN
  clear hN
  go_wp2
  go_end0
  exact ⟨rfl, HN.out⟩

set_option maxHeartbeats 800000 in
theorem out12 (ib : Nat) (v3 v4 v5 : Value) (w : World) (h3 : w.cell? ⟨ib, 3, none⟩ = some v3) (h4 : w.cell? ⟨ib, 4, none⟩ = some v4) (h5 : w.cell? ⟨ib, 5, none⟩ = some v5) :
    Calls Try.prog 12 #[.pointer (some ⟨ib, 0, none⟩)] w fun e w' => e = .returned (.tuple #[v3, v4, v5]) ∧ ∃ m, w' = w.drewN m := by
  go_enter Try.func12, Try.ntmps12
  go_wp2
  go_quiet (fail)
  go_wp2
  go_ret3
  exact ⟨rfl, _, rfl⟩
end Go.Proofs.Qxb6601772a
