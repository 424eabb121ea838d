import Derived.Test.Qxb6601772aMem
namespace Go.Proofs.Qxb6601772a
open Go.ChangeShapes Go.WideShapes Go.ChangeAt Go.RowKit Go.Deep

/-- what numberAccesses reads: touch i is of step P i, of transaction τ i, at item χ i -/
structure AccIn (w : World) (ib ns n n2 nt items : Nat) (A0 A1 A2 : Option Addr) (b0 o0 b1 o1 b2 o2 : Nat) (P τ χ : Nat → Nat) : Prop where
  at0 : 0 < n → A0 = some ⟨b0, o0, none⟩
  at1 : 0 < n → A1 = some ⟨b1, o1, none⟩
  at2 : 0 < n → A2 = some ⟨b2, o2, none⟩
  step : ∀ i, i < n → w.cell? ⟨b1, o1 + i, none⟩ = some (.int .i64 (P i : Int))
  stepLt : ∀ i, i < n → P i < ns
  txn : ∀ i, i < n → w.cell? ⟨b0, o0 + P i, none⟩ = some (.int .i64 (τ i : Int))
  txnLt : ∀ i, i < n → τ i < nt
  item : ∀ i, i < n → w.cell? ⟨b2, o2 + i, none⟩ = some (.int .i64 (χ i : Int))
  itemLt : ∀ i, i < n → χ i < items
  more : n ≤ n2
  low : 0 < n → b0 < w.heap.size ∧ b1 < w.heap.size ∧ b2 < w.heap.size
  off : 0 < n → b0 ≠ ib ∧ b1 ≠ ib ∧ b2 ≠ ib

theorem AccIn.grown {w wr : World} {ib ns n n2 nt items : Nat} {A0 A1 A2 : Option Addr} {b0 o0 b1 o1 b2 o2 : Nat} {P τ χ : Nat → Nat} (H : AccIn w ib ns n n2 nt items A0 A1 A2 b0 o0 b1 o1 b2 o2 P τ χ) (hg : w.grownBy wr (some ib)) :
    AccIn wr ib ns n n2 nt items A0 A1 A2 b0 o0 b1 o1 b2 o2 P τ χ where
  at0 := H.at0
  at1 := H.at1
  at2 := H.at2
  step := fun i hi => hg.cell (H.step i hi) (by have := (H.off (by omega)).2.1; simpa using this)
  stepLt := H.stepLt
  txn := fun i hi => hg.cell (H.txn i hi) (by have := (H.off (by omega)).1; simpa using this)
  txnLt := H.txnLt
  item := fun i hi => hg.cell (H.item i hi) (by have := (H.off (by omega)).2.2; simpa using this)
  itemLt := H.itemLt
  more := H.more
  low := fun h => by have := H.low h; have := hg.size; omega
  off := H.off

theorem grown_of_below {w wr : World} (h : Below w.heap.size w wr) (row : Option Nat) : w.grownBy wr row := ⟨h.os, h.tape, h.output, h.size, fun k hk _ => h.block k hk⟩

/-- how many touches each transaction has among the first k -/
def cntRow (τ : Nat → Nat) (k t : Nat) : Value := .int .i64 (((lst τ t k).length : Nat) : Int)
theorem cnt_start (τ : Nat → Nat) (nt : Nat) (w : World) : (w.alloc (.cells (madeCells #[.int .i64 0] nt) 3)).rowIs w.heap.size 3 nt (cntRow τ 0) :=
  (World.rowIs_made w (.int .i64 0) nt 3).congr fun i hi => by simp [cntRow, lst]
theorem cnt_set {w : World} {b nt k : Nat} {τ : Nat → Nat} (h : w.rowIs b 3 nt (cntRow τ k)) : (w.setCell ⟨b, τ k, none⟩ (.int .i64 ((((lst τ (τ k) k).length : Nat) : Int) + 1))).rowIs b 3 nt (cntRow τ (k + 1)) :=
  (h.set (τ k) _).congr fun i hi => by
    unfold cntRow
    rw [lst_succ]
    by_cases e : i = τ k
    · subst e; simp
    · rw [if_neg e, if_neg (fun g => e g.symm)]

/-- the carved lists, filled with the first k touches -/
def fillRow (A : Nat → Option Addr) (τ : Nat → Nat) (n k t : Nat) : Value := .slice (A t) (lst τ t k).length (lst τ t n).length
theorem fill_start {w : World} {b nt n : Nat} {A : Nat → Option Addr} {τ : Nat → Nat} (h : w.rowIs b 22 nt (listRow A (fun t => (lst τ t n).length) nt)) : w.rowIs b 22 nt (fillRow A τ n 0) :=
  h.congr fun i hi => by simp [fillRow, listRow, hi, lst]
theorem fill_set {w : World} {b nt n k : Nat} {A : Nat → Option Addr} {τ : Nat → Nat} (h : w.rowIs b 22 nt (fillRow A τ n k)) : (w.setCell ⟨b, τ k, none⟩ (.slice (A (τ k)) ((lst τ (τ k) k).length + 1) (lst τ (τ k) n).length)).rowIs b 22 nt (fillRow A τ n (k + 1)) :=
  (h.set (τ k) _).congr fun i hi => by
    unfold fillRow
    rw [lst_succ]
    by_cases e : i = τ k
    · subst e; simp
    · rw [if_neg e, if_neg (fun g => e g.symm)]

/-- what the one array holds behind k touches -/
def Filled (τ : Nat → Nat) (n k : Nat) (a : Nat → Int) : Prop := ∀ (t m i : Nat), (lst τ t k)[m]? = some i → a (offs τ n t + m) = (i : Int)

theorem Filled.next {τ : Nat → Nat} {n k : Nat} {a : Nat → Int} (H : Filled τ n k a) (hk : k < n) : Filled τ n (k + 1) (upd a (offs τ n (τ k) + (lst τ (τ k) k).length) (k : Int)) := by
  intro t m i h
  have hmono : (lst τ t k).length ≤ (lst τ t n).length := lst_mono τ (by omega)
  have hroom : (lst τ (τ k) k).length < (lst τ (τ k) n).length := by
    have h1 := lst_mono τ (t := τ k) (show k + 1 ≤ n by omega)
    rw [lst_succ, if_pos rfl, List.length_append] at h1
    simp at h1
    omega
  rw [lst_succ] at h
  by_cases e : τ k = t
  · subst e
    rw [if_pos rfl] at h
    by_cases e2 : m = (lst τ (τ k) k).length
    · subst e2
      rw [List.getElem?_append_right (Nat.le_refl _), Nat.sub_self] at h
      simp at h
      rw [upd_same, h]
    · by_cases e3 : m < (lst τ (τ k) k).length
      · rw [List.getElem?_append_left e3] at h
        rw [upd_other _ (by omega)]
        exact H _ _ _ h
      · rw [List.getElem?_eq_none (by rw [List.length_append]; simp; omega)] at h
        cases h
  · rw [if_neg e] at h
    have hm : m < (lst τ t k).length := by
      obtain ⟨hlt, _⟩ := List.getElem?_eq_some_iff.1 h
      exact hlt
    have hne : offs τ n t + m ≠ offs τ n (τ k) + (lst τ (τ k) k).length := by
      intro g
      by_cases h1 : t < τ k
      · have h2 := offs_mono τ (n := n) (show t + 1 ≤ τ k by omega)
        have h3 : offs τ n (t + 1) = offs τ n t + (lst τ t n).length := rfl
        omega
      · have h2 := offs_mono τ (n := n) (show τ k + 1 ≤ t by omega)
        have h3 : offs τ n (τ k + 1) = offs τ n (τ k) + (lst τ (τ k) n).length := rfl
        omega
    rw [upd_other _ hne]
    exact H _ _ _ h

theorem fill_room {τ : Nat → Nat} {n nt k : Nat} (hn : ∀ j, j < n → τ j < nt) (hk : k < n) : (lst τ (τ k) k).length < (lst τ (τ k) n).length ∧ offs τ n (τ k) + (lst τ (τ k) k).length < n := by
  have h1 := lst_mono τ (t := τ k) (show k + 1 ≤ n by omega)
  rw [lst_succ, if_pos rfl, List.length_append] at h1
  simp at h1
  have h2 := offs_fits τ hn (hn k hk)
  omega

/-- make([]T, 0, n), an element of one cell -/
theorem run_make_cap {P : Program} (t e : TypeId) (z : Value) (bytes : Nat) (ht : P.underlying t = some (.slice e)) (hinfo : (P.info? e).map (fun i => (i.zero, i.size, i.bytes)) = some (some z, 1, bytes)) (hz1 : z.cells = #[z])
    (n : Nat) (hbytes : bytes * n ≤ 281474976710656) (h63 : n ≤ 9223372036854775807) (w : World) :
    (Instr.makeSlice t (.int .i64 0) (.int .i64 (n : Int))).run P w = .ok (.slice (some ⟨w.heap.size, 0, none⟩) 0 n) (w.alloc (.cells (madeCells #[z] n) e)) := by
  obtain ⟨i, hi, hzz⟩ := Option.map_eq_some_iff.1 hinfo
  simp only [Prod.mk.injEq] at hzz
  obtain ⟨hz, hs, hb⟩ := hzz
  have hb' : (i.bytes : Int) * (n : Int) ≤ 281474976710656 := by
    have h : ((i.bytes * n : Nat) : Int) ≤ 281474976710656 := by rw [hb]; omega
    rwa [Int.natCast_mul] at h
  have hr := run_make (P := P) w t e i z ht hi hz .i64 .i64 0 n (by omega) (by omega) hb' (by omega)
  simp only [Int.toNat_natCast, Int.toNat_zero, hs, hz1, Nat.mul_one] at hr
  exact hr

/-- What numberAccesses leaves behind. -/
def Numbered (w w' : World) (ib n nt : Nat) (v0 v1 v2 v6 v7 v8 v9 v10 v11 : Value) (τ χ : Nat → Nat) : Prop :=
  ∃ (TB IB SB : Nat) (g h s : Nat → Int), w'.heap[ib]? = some (.cells #[v0, v1, v2, .slice (some ⟨TB, 0, none⟩) n n, .slice (some ⟨IB, 0, none⟩) (cum τ χ n nt) n, .slice (some ⟨SB, 0, none⟩) (nt + 1) (nt + 1), v6, v7, v8, v9, v10, v11] 65 (0, 0)) ∧
    w'.rowIs TB 3 n (intRow g) ∧ (∀ j, j < n → g j = (acc τ χ n j : Int)) ∧ w'.rowIs IB 3 n (intRow h) ∧ (∀ (m x : Nat), (flat τ χ n nt)[m]? = some x → h m = (x : Int)) ∧
    w'.rowIs SB 3 (nt + 1) (intRow s) ∧ (∀ u, u ≤ nt → s u = (cum τ χ n u : Int)) ∧ w.grownBy w' (some ib) ∧ w.heap.size ≤ TB ∧ w.heap.size ≤ IB ∧ w.heap.size ≤ SB

theorem numbered {w wr : World} {ib ALL LB TB IB XB SB : Nat} {v0 v1 v2 v6 v7 v8 v9 v10 v11 : Value} {n nt items L : Nat} {Lst : Nat → Value} {a g h l s : Nat → Int} {τ χ : Nat → Nat} (ht : ∀ j, j < n → τ j < nt)
    (H : Mem w wr ib ALL LB TB IB XB SB v0 v1 v2 v6 v7 v8 v9 v10 v11 n nt items L Lst a g h l s) (O : Out τ χ n items nt L g h l s) : Numbered w ((wr.setCell ⟨SB, nt, none⟩ (.int .i64 (L : Int))).drew) ib n nt v0 v1 v2 v6 v7 v8 v9 v10 v11 τ χ := by
  have H2 := (H.setSt nt (L : Int)).drew
  obtain ⟨o1, o2, o3, o4, o5, o6, o7⟩ := H.ord
  have hL := O.len
  subst hL
  refine ⟨TB, IB, SB, g, h, _, H2.box, H2.ta, fun j hj => O.touch j hj (ht j hj), H2.ai, O.item, H2.st, fun u hu => ?_, H2.frame, by omega, by omega, by omega⟩
  by_cases e : u = nt
  · subst e; rw [upd_same]
  · rw [upd_other _ e]; exact O.start u (by omega)

theorem out_start (τ χ : Nat → Nat) {n items : Nat} {l : Nat → Int} (hl : ∀ y, y < items → l y = -1) : Out τ χ n items 0 0 (fun _ => 0) (fun _ => 0) l (fun _ => 0) where
  len := rfl
  item := fun m x h => by simp [flat] at h
  last := fun x hx => by rw [hl x hx]; have : (cum τ χ n 0 : Int) = 0 := rfl; omega
  start := fun u hu => by omega
  touch := fun j _ h => by omega

set_option maxHeartbeats 8000000 in
set_option maxRecDepth 100000 in
theorem num23 (ib ns n n2 nt items c0 c1 c2 c6 : Nat) (A0 A1 A2 A6 : Option Addr) (b0 o0 b1 o1 b2 o2 : Nat) (P τ χ : Nat → Nat) (s3 s4 s5 : Option Addr) (l3 k3 l4 k4 l5 k5 : Nat) (v7 v9 v10 v11 : Value) (w : World)
    (hA : AccIn w ib ns n n2 nt items A0 A1 A2 b0 o0 b1 o1 b2 o2 P τ χ) (hn : n ≤ 65536) (hnt : nt ≤ 65536) (hit : items ≤ 65536)
    (hbox : w.heap[ib]? = some (.cells #[.slice A0 ns c0, .slice A1 n c1, .slice A2 n2 c2, .slice s3 l3 k3, .slice s4 l4 k4, .slice s5 l5 k5, .slice A6 nt c6, v7, .int .i64 (items : Int), v9, v10, v11] 65 (0, 0))) :
    Calls Try.prog 23 #[.pointer (some ⟨ib, 0, none⟩)] w fun e w' => e = .returned (.tuple #[]) ∧ Numbered w w' ib n nt (.slice A0 ns c0) (.slice A1 n c1) (.slice A2 n2 c2) (.slice A6 nt c6) v7 (.int .i64 (items : Int)) v9 v10 v11 τ χ := by
  have HA := hid hA
  have HX := hid hbox
  have hib : ib < w.heap.size := (Array.getElem?_eq_some_iff.1 hbox).1
  have hc0 : w.cell? ⟨ib, 0, none⟩ = some (.slice A0 ns c0) := by simp [World.cell?, hbox]
  have hc1 : w.cell? ⟨ib, 1, none⟩ = some (.slice A1 n c1) := by simp [World.cell?, hbox]
  have hc6 : w.cell? ⟨ib, 6, none⟩ = some (.slice A6 nt c6) := by simp [World.cell?, hbox]
  have hmk := run_make_row' (P := Try.prog) 22 3 (.int .i64 0) 8 Try.underlying22 Try.info3 rfl .i64 .i64 nt (by omega) (by omega)
  clear hA hbox
  go_enter Try.func23, Try.ntmps23
  go_wp2
  go_loopw [28] (fun i wr => ∃ k : Nat, k ≤ n ∧ i = .int .i64 k ∧ wr.rowIs w.heap.size 3 nt (cntRow τ k) ∧ Below w.heap.size w wr) (fun i _ => n - (intOf i).toNat)
  case atStart => exact ⟨0, Nat.zero_le _, rfl, cnt_start τ nt w, (Below.refl _ _).alloc (Nat.le_refl _) _⟩
  case round =>
    clear hmk
    obtain ⟨k, hk, rfl, hrow, hb⟩ := hrel
    have HR := hid hrow
    have HB := hid hb
    by_cases hlt : k < n
    · have HG := hid (HA.out.grown (grown_of_below hb (some ib)))
      have hix1 := fun w => run_indexAt_any (P := Try.prog) 22 3 A1 n c1 b1 o1 1 Try.underlying22 size3 (fun _ => HA.out.at1 (by omega)) k hlt w
      have hix0 := fun w => run_indexAt_any (P := Try.prog) 22 3 A0 ns c0 b0 o0 1 Try.underlying22 size3 (fun _ => HA.out.at0 (by omega)) (P k) (HA.out.stepLt k hlt) w
      have hs1 := HG.out.step k hlt
      have hs0 := HG.out.txn k hlt
      have ht := HA.out.txnLt k hlt
      have hrc := hrow.cell ht
      have hrf := hrow.frozen (τ k)
      have hll := lst_len τ (τ k) k
      have hw0 : wr.cell? ⟨ib, 0, none⟩ = some (.slice A0 ns c0) := (hb.cell hib).trans hc0
      unfold cntRow at hrc
      clear hrow hb HG hc0 hc1 hc6
      go_wp2
      go_roundw
      case rel => exact ⟨k + 1, by omega, by go_num, cnt_set HR.out, HB.out.setCell (Nat.le_refl _) _⟩
      case measure => simp [intOf]; omega
    · obtain rfl : k = n := by omega
      clear hrow hb
      go_wp2_with fail
      refine (carve25 w.heap.size nt (fun t => (lst τ t k).length) (fun t => offs τ k t) rfl (fun t ht => rfl) (fun t ht => offs_mono τ ht) (by rw [offs_all τ k HA.out.txnLt]; exact hn) hnt wr HR.out).mono ?_
      rintro e w2 ⟨rfl, A, hAA, hall, hlist, hb2⟩
      rw [offs_all τ k HA.out.txnLt] at hall
      have hsz := HR.out.lt
      have HB2 : Hid (Below w.heap.size w w2) := HB.out.trans (hb2.mono (by omega))
      obtain ⟨i3, hi3, _, hz3, _⟩ := info_parts Try.info3
      have HX2 : Hid (w2.heap[ib]? = some (.cells #[.slice A0 ns c0, .slice A1 k c1, .slice A2 n2 c2, .slice s3 l3 k3, .slice s4 l4 k4, .slice s5 l5 k5, .slice A6 nt c6, v7, .int .i64 (items : Int), v9, v10, v11] 65 (0, 0))) := (HB2.out.block ib hib).trans HX.out
      have HL := hid hlist
      have HAll := hid hall
      have HAA := hid hAA
      have hw1 : w2.cell? ⟨ib, 1, none⟩ = some (.slice A1 k c1) := by simp [World.cell?, HX2.out]
      have hs2 := hb2.size
      clear hlist hall hAA hb2 hc0 hc1 hc6 HR HX
      obtain ⟨wo, hwo⟩ : ∃ wo : World, wo = wr := ⟨_, rfl⟩
      rw [← hwo] at HB HL HAll HAA hsz hs2 ⊢
      clear hwo wr
      go_wp2
      clear hw1
      go_loopw [52] (fun i wr => ∃ (q : Nat) (a : Nat → Int), q ≤ k ∧ i = .int .i64 q ∧ wr.rowIs (wo.heap.size + 1) 22 nt (fillRow A τ k q) ∧ wr.rowIs wo.heap.size 3 k (intRow a) ∧ Filled τ k q a ∧ Below w.heap.size w wr) (fun i _ => k - (intOf i).toNat)
      case atStart => exact ⟨0, fun _ => 0, Nat.zero_le _, rfl, fill_start HL.out, HAll.out, fun t m i h => by simp [lst] at h, HB2.out⟩
      case round =>
        obtain ⟨q, a, hq, rfl, hlist, hall, hfill, hb⟩ := hrel
        have HL2 := hid hlist
        have HAll2 := hid hall
        have HF := hid hfill
        have HB3 := hid hb
        by_cases hlt2 : q < k
        · have HG := hid (HA.out.grown (grown_of_below hb (some ib)))
          have hix1 := fun w => run_indexAt_any (P := Try.prog) 22 3 A1 k c1 b1 o1 1 Try.underlying22 size3 (fun _ => HA.out.at1 (by omega)) q hlt2 w
          have hix0 := fun w => run_indexAt_any (P := Try.prog) 22 3 A0 ns c0 b0 o0 1 Try.underlying22 size3 (fun _ => HA.out.at0 (by omega)) (P q) (HA.out.stepLt q hlt2) w
          have hs1 := HG.out.step q hlt2
          have hs0 := HG.out.txn q hlt2
          have ht := HA.out.txnLt q hlt2
          have hroom := fill_room HA.out.txnLt hlt2
          have hAt := HAA.out (τ q) ht (by omega)
          have hrc := hlist.cell ht
          have hrf := hlist.frozen (τ q)
          unfold fillRow at hrc
          rw [hAt] at hrc
          have hac := hall.cell hroom.2
          have haf := hall.frozen (offs τ k (τ q) + (lst τ (τ q) q).length)
          have hw0 : wr.cell? ⟨ib, 0, none⟩ = some (.slice A0 ns c0) := by
            have h := hb.cell (p := ⟨ib, 0, none⟩) hib
            rw [h, ← HB2.out.cell (p := ⟨ib, 0, none⟩) hib]
            simp [World.cell?, HX2.out]
          have hlo1 := hlist.lt
          have hlo2 := hall.lt
          have HAt := hid hAt
          clear hlist hall hfill hb HG hAt
          go_wp2
          go_roundw
          case rel =>
            have h1 := fill_set (HL2.out.setOther (a := ⟨wo.heap.size, offs τ k (τ q) + (lst τ (τ q) q).length, none⟩) (by simp) (.int .i64 (q : Int)))
            rw [HAt.out] at h1
            exact ⟨q + 1, _, by omega, by go_num, h1.alloc _, ((intRow_set HAll2.out _ _).setOther (by simp) _).alloc _, HF.out.next hlt2, ((HB3.out.setCell (by simp; omega) _).setCell (by simp; omega) _).alloc (by simp; omega) _⟩
          case measure => simp [intOf]; omega
        · obtain rfl : q = k := by omega
          have HX3 : Hid (wr.heap[ib]? = some (.cells #[.slice A0 ns c0, .slice A1 q c1, .slice A2 n2 c2, .slice s3 l3 k3, .slice s4 l4 k4, .slice s5 l5 k5, .slice A6 nt c6, v7, .int .i64 (items : Int), v9, v10, v11] 65 (0, 0))) := (hb.block ib hib).trans ((HB2.out.block ib hib).symm.trans HX2.out)
          have hc1 : wr.cell? ⟨ib, 1, none⟩ = some (.slice A1 q c1) := by simp [World.cell?, HX3.out]
          have hc3 : wr.cell? ⟨ib, 3, none⟩ = some (.slice s3 l3 k3) := by simp [World.cell?, HX3.out]
          have hc4 : wr.cell? ⟨ib, 4, none⟩ = some (.slice s4 l4 k4) := by simp [World.cell?, HX3.out]
          have hc8 : wr.cell? ⟨ib, 8, none⟩ = some (.int .i64 (items : Int)) := by simp [World.cell?, HX3.out]
          have hf3 : wr.frozen? ⟨ib, 3, none⟩ = false := by simp [World.frozen?, HX3.out]
          have hf4 : wr.frozen? ⟨ib, 4, none⟩ = false := by simp [World.frozen?, HX3.out]
          have hibr : ib < wr.heap.size := by have := hb.size; omega
          have hmk1 := run_make_row' (P := Try.prog) 22 3 (.int .i64 0) 8 Try.underlying22 Try.info3 rfl .i64 .i64 q (by omega) (by omega)
          have hmk2 := run_make_row' (P := Try.prog) 22 3 (.int .i64 0) 8 Try.underlying22 Try.info3 rfl .i64 .i64 items (by omega) (by omega)
          have hmk0 := run_make_cap (P := Try.prog) 22 3 (.int .i64 0) 8 Try.underlying22 Try.info3 rfl q (by omega) (by omega)
          clear hlist hall hfill hb
          go_wp2
          clear hc1 hc3 hc4 hc8 hf3 hf4 hmk1 hmk2 hmk0
          have HM0 := hid (Mem0.start (items := items) HX3.out HAll2.out HL2.out (grown_of_below HB3.out (some ib)) ⟨hib, by omega, by omega⟩)
          obtain ⟨wp, hwp⟩ : ∃ wp : World, wp = wr := ⟨_, rfl⟩
          rw [← hwp] at HM0 HX3 HB3 HL2 HAll2 hibr ⊢
          clear hwp wr
          go_loopw [100] (fun i wr => ∃ (x : Nat) (l : Nat → Int), x ≤ items ∧ i = .int .i64 x ∧ Mem0 w wr ib wo.heap.size (wo.heap.size + 1) wp.heap.size (wp.heap.size + 1) (wp.heap.size + 1 + 1) (.slice A0 ns c0) (.slice A1 q c1) (.slice A2 n2 c2) (.slice s5 l5 k5) (.slice A6 nt c6) v7 (.int .i64 (items : Int)) v9 v10 v11 q nt items (fillRow A τ q q) a (fun _ => 0) (fun _ => 0) l ∧
              ∀ y, y < x → l y = -1) (fun i _ => items - (intOf i).toNat)
          case atStart => exact ⟨0, fun _ => 0, Nat.zero_le _, rfl, HM0.out, fun y hy => by omega⟩
          case round =>
            obtain ⟨x, l, hx, rfl, hm0, hl⟩ := hrel
            have HM := hid hm0
            have HLL := hid hl
            clear hl HM0
            by_cases hxi : x < items
            · have hxc := hm0.la.cell hxi
              have hxf := hm0.la.frozen x
              clear hm0
              go_wp2
              go_roundw
              case rel =>
                refine ⟨x + 1, _, by omega, by go_num, HM.out.setLa x (-1), fun y hy => ?_⟩
                by_cases e : y = x
                · subst e; exact upd_same _ _ _
                · rw [upd_other _ e]; exact HLL.out y (by omega)
              case measure => simp [intOf]; omega
            · obtain rfl : x = items := by omega
              have hc6 := hm0.cell 6 _ rfl
              have hc5 := hm0.cell 5 _ rfl
              have hf5 := hm0.frozen 5
              have hibx : ib < wr.heap.size := (Array.getElem?_eq_some_iff.1 hm0.box).1
              have hmk := run_make_row' (P := Try.prog) 22 3 (.int .i64 0) 8 Try.underlying22 Try.info3 rfl .i64 .i64 (nt + 1) (by omega) (by omega)
              rw [show ((nt + 1 : Nat) : Int) = (nt : Int) + 1 from by omega] at hmk
              have HM1 := hid hm0.starts
              clear hm0 HM
              go_wp2
              clear hc6 hc5 hf5 hmk
              obtain ⟨wz, hwz⟩ : ∃ wz : World, wz = wr := ⟨_, rfl⟩
              rw [← hwz] at HM1 hibx ⊢
              clear hwz wr
              go_loopw [119] (fun i wr => ∃ (t L : Nat) (g h l s : Nat → Int), t ≤ nt ∧ i = .int .i64 t ∧ Mem w wr ib wo.heap.size (wo.heap.size + 1) wp.heap.size (wp.heap.size + 1) (wp.heap.size + 1 + 1) wz.heap.size (.slice A0 ns c0) (.slice A1 q c1) (.slice A2 n2 c2) (.slice A6 nt c6) v7 (.int .i64 (x : Int)) v9 v10 v11 q nt x L (fillRow A τ q q) a g h l s ∧
                  Out τ χ q x t L g h l s) (fun i _ => nt - (intOf i).toNat)
              case atStart => exact ⟨0, 0, _, _, _, _, Nat.zero_le _, rfl, HM1.out, out_start τ χ HLL.out⟩
              case round =>
                obtain ⟨t, L, g, h, l2, s, htn, rfl, hmem, hout⟩ := hrel
                have HM2 := hid hmem
                have HO := hid hout
                clear hout HM1 HLL
                have hLle : L ≤ q := by rw [HO.out.len]; exact cum_le τ χ HA.out.txnLt htn
                by_cases htlt : t < nt
                · have hlc := hmem.lists.cell htlt
                  unfold fillRow at hlc
                  have hc4 := hmem.cell 4 _ rfl
                  have hc5 := hmem.cell 5 _ rfl
                  have hsc := hmem.st.cell (i := t) (by omega)
                  have hsf := hmem.st.frozen t
                  clear hmem
                  go_wp2
                  go_region
                  go_wp2
                  have HM3 := hid ((HM2.out.setSt t (L : Int)).drew)
                  have HI := hid HO.out.turn
                  clear HM2 HO hlc hc4 hc5 hsc hsf hLle
                  obtain ⟨wt, hwt⟩ : ∃ wt : World, wt = wr := ⟨_, rfl⟩
                  rw [← hwt] at HM3 ⊢
                  clear hwt wr
                  go_loopw [137] (fun i wr => ∃ (y L : Nat) (g h l s : Nat → Int), y ≤ (lst τ t q).length ∧ i = .int .i64 y ∧ Mem w wr ib wo.heap.size (wo.heap.size + 1) wp.heap.size (wp.heap.size + 1) (wp.heap.size + 1 + 1) wz.heap.size (.slice A0 ns c0) (.slice A1 q c1) (.slice A2 n2 c2) (.slice A6 nt c6) v7 (.int .i64 (x : Int)) v9 v10 v11 q nt x L (fillRow A τ q q) a g h l s ∧
                      Inn τ χ q x t y L g h l s) (fun i _ => (lst τ t q).length - (intOf i).toNat)
                  case atStart => exact ⟨0, _, _, _, _, _, Nat.zero_le _, rfl, HM3.out, HI.out⟩
                  case round =>
                    obtain ⟨y, L, g, h, l2, s, hyl, rfl, hmem, hinn⟩ := hrel
                    have HM4 := hid hmem
                    have HN := hid hinn
                    clear hinn HM3 HI
                    have hlle := lst_len τ t q
                    by_cases hyn : y < (lst τ t q).length
                    · obtain ⟨i, hi⟩ : ∃ i, (lst τ t q)[y]? = some i := ⟨_, List.getElem?_eq_getElem hyn⟩
                      have hiq := lst_lt τ (List.mem_of_getElem? hi)
                      have hin := hiq.1
                      have hAt := HAA.out t htlt (by omega)
                      have hix := fun w => run_indexAt_any (P := Try.prog) 22 3 (A t) (lst τ t q).length (lst τ t q).length wo.heap.size (offs τ q t) 1 Try.underlying22 size3 (fun _ => hAt) y hyn w
                      have hac := hmem.all.cell (i := offs τ q t + y) (by have := offs_fits τ HA.out.txnLt htlt; omega)
                      unfold intRow at hac
                      rw [HF.out t y i hi] at hac
                      have HG := hid (HA.out.grown hmem.frame)
                      have hix2 := fun w => run_indexAt_any (P := Try.prog) 22 3 A2 n2 c2 b2 o2 1 Try.underlying22 size3 (fun _ => HA.out.at2 (by omega)) i (by have := HA.out.more; omega) w
                      have hitm := HG.out.item i hin
                      have hchi := HA.out.itemLt i hin
                      have hc2 := hmem.cell 2 _ rfl
                      have hc3 := hmem.cell 3 _ rfl
                      have hc4 := hmem.cell 4 _ rfl
                      have hc5 := hmem.cell 5 _ rfl
                      have hf4 := hmem.frozen 4
                      have hlc := hmem.la.cell hchi
                      have hlf := hmem.la.frozen (χ i)
                      have hsc := hmem.st.cell (i := t) (by omega)
                      have htc := hmem.ta.cell hin
                      have htf := hmem.ta.frozen i
                      unfold intRow at hlc hsc htc
                      rw [HN.out.start t (Nat.le_refl _)] at hsc
                      have HI := hid hi
                      have HIQ := hid hiq
                      clear hiq hi hAt HG
                      by_cases hseen : χ i ∈ seen τ χ t q y
                      · have hold := HN.out.old HI.out hseen
                        have hnlt : ¬ l2 (χ i) < (cum τ χ q t : Int) := by
                          rw [hold.1]
                          have h1 := (acc_lt τ χ hin).1
                          rw [HIQ.out.2] at h1
                          omega
                        have HOld := hid hold.2
                        clear hold hmem hseen
                        go_wp2
                        go_roundw
                        case rel => exact ⟨y + 1, _, _, _, _, _, by omega, by go_num, HM4.out.setTa i _, HOld.out⟩
                        case measure => simp [intOf]; omega
                      · have hlt3 := HN.out.last (χ i) hchi hseen
                        have hrm := seen_room τ χ HA.out.txnLt htlt HI.out hseen
                        rw [← HN.out.len] at hrm
                        have hicell := hmem.ai.cell hrm
                        have hifr := hmem.ai.frozen L
                        have HNew := hid (HN.out.new HI.out hseen)
                        have ho := hmem.ord
                        obtain ⟨ord1, ord2, ord3, ord4, ord5, ord6, ord7⟩ := ho
                        have hszr := hmem.st.lt
                        unfold intRow at hicell
                        have q1 : ib < wr.heap.size := by omega
                        have q2 : wp.heap.size < wr.heap.size := by omega
                        have q3 : wp.heap.size + 1 < wr.heap.size := by omega
                        have q4 : wp.heap.size + 1 + 1 < wr.heap.size := by omega
                        have q5 : ¬ ib = wp.heap.size := by omega
                        have q6 : ¬ ib = wp.heap.size + 1 := by omega
                        have q7 : ¬ ib = wp.heap.size + 1 + 1 := by omega
                        have q8 : ¬ wp.heap.size = ib := by omega
                        have q9 : ¬ wp.heap.size + 1 = ib := by omega
                        have q10 : ¬ wp.heap.size + 1 + 1 = ib := by omega
                        clear hmem hseen ord1 ord2 ord3 ord4 ord5 ord6 ord7 hszr
                        go_wp2
                        go_roundw
                        case rel => exact ⟨y + 1, L + 1, _, _, _, _, by omega, by go_num, ((((HM4.out.setLa (χ i) _).setAi L _).setLen (L + 1)).setTa i _).alloc _, HNew.out⟩
                        case measure => simp [intOf]; omega
                    · obtain rfl : y = (lst τ t q).length := by omega
                      have HD := hid HN.out.done
                      clear hmem HN
                      go_wp2
                      go_roundw
                      case rel => exact ⟨t + 1, L, _, _, _, _, by omega, by go_num, HM4.out, HD.out⟩
                      case measure => simp [intOf]; omega
                · obtain rfl : t = nt := by omega
                  have hc4 := hmem.cell 4 _ rfl
                  have hc5 := hmem.cell 5 _ rfl
                  have hc6 := hmem.cell 6 _ rfl
                  have hsc := hmem.st.cell (i := t) (by omega)
                  have hsf := hmem.st.frozen t
                  have HD := hid (numbered HA.out.txnLt hmem HO.out)
                  clear hmem HO HM2
                  go_wp2
                  go_region
                  all_goals go_wp2
                  all_goals go_end0
                  all_goals exact ⟨rfl, HD.out⟩
end Go.Proofs.Qxb6601772a
