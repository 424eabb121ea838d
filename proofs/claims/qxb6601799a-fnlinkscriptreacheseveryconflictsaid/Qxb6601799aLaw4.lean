import Derived.Test.Qxb6601799aOpen
import Derived.Test.Qxb6601799aZlink
import Derived.Test.Qxb6601799aBfs
namespace Go.Proofs.Qxb6601799a
open Go.ChangeShapes Go.WideShapes Go.ChangeAt Go.RowKit

theorem LMS.drew {B : Nat} {w0 w : World} {GB wb kb n : Nat} {s : St} (h : LMS B w0 w GB wb kb n s) : LMS B w0 w.drew GB wb kb n s := by
  obtain ⟨V, RV, h⟩ := h
  exact ⟨V, RV, h.drew⟩
theorem LMS.below {B : Nat} {w0 w : World} {GB wb kb n : Nat} {s : St} (h : LMS B w0 w GB wb kb n s) : Below B w0 w := by
  obtain ⟨V, RV, h⟩ := h
  exact h.below
theorem LMS.alloc {B : Nat} {w0 w : World} {GB wb kb n : Nat} {s : St} (h : LMS B w0 w GB wb kb n s) (o : Obj) : LMS B w0 (w.alloc o) GB wb kb n s := by
  obtain ⟨V, RV, h⟩ := h
  exact ⟨V, RV, h.alloc o⟩

/-- What each round of the search's loop leaves: the graph, and four rows of bools. -/
structure L4 (w wr : World) (n : Nat) (s : St) (d : Nat) : Prop where
  lms : LMS w.heap.size w wr w.heap.size (w.heap.size + 1) (w.heap.size + 2) n s
  hd : w.heap.size ≤ d
  r0 : ∃ D : Nat → Bool, wr.rowIs d 4 n (fun v => .bool (D v))
  r1 : ∃ D : Nat → Bool, wr.rowIs (d + 1) 4 n (fun v => .bool (D v))
  r2 : ∃ D : Nat → Bool, wr.rowIs (d + 1 + 1) 4 n (fun v => .bool (D v))
  r3 : ∃ D : Nat → Bool, wr.rowIs (d + 1 + 1 + 1) 4 n (fun v => .bool (D v))

theorem L4.start {w wr : World} {n : Nat} {s : St} (h : LMS w.heap.size w wr w.heap.size (w.heap.size + 1) (w.heap.size + 2) n s) :
    L4 w ((((wr.alloc (.cells (madeCells #[.bool false] n) 4)).alloc (.cells (madeCells #[.bool false] n) 4)).alloc (.cells (madeCells #[.bool false] n) 4)).alloc (.cells (madeCells #[.bool false] n) 4)) n s wr.heap.size := by
  have e : ∀ (v : World), (v.alloc (.cells (madeCells #[.bool false] n) 4)).heap.size = v.heap.size + 1 := fun v => by simp
  refine ⟨(((h.alloc _).alloc _).alloc _).alloc _, h.below.size, ⟨fun _ => false, (((World.rowIs_made wr (.bool false) n 4).alloc _).alloc _).alloc _⟩, ⟨fun _ => false, ?_⟩, ⟨fun _ => false, ?_⟩, ⟨fun _ => false, ?_⟩⟩
  · have := ((World.rowIs_made (wr.alloc (.cells (madeCells #[.bool false] n) 4)) (.bool false) n 4).alloc (.cells (madeCells #[.bool false] n) 4)).alloc (.cells (madeCells #[.bool false] n) 4)
    rwa [e] at this
  · have := (World.rowIs_made ((wr.alloc (.cells (madeCells #[.bool false] n) 4)).alloc (.cells (madeCells #[.bool false] n) 4)) (.bool false) n 4).alloc (.cells (madeCells #[.bool false] n) 4)
    rwa [e, e] at this
  · have := World.rowIs_made (((wr.alloc (.cells (madeCells #[.bool false] n) 4)).alloc (.cells (madeCells #[.bool false] n) 4)).alloc (.cells (madeCells #[.bool false] n) 4)) (.bool false) n 4
    rwa [e, e, e] at this

theorem L4.mark {w wr : World} {n : Nat} {s : St} {d : Nat} (h : L4 w wr n s d) (u : Nat) : L4 w (wr.setCell ⟨d, u, none⟩ (.bool true)) n s d := by
  obtain ⟨D, hD⟩ := h.r0
  obtain ⟨D1, h1⟩ := h.r1
  obtain ⟨D2, h2⟩ := h.r2
  obtain ⟨D3, h3⟩ := h.r3
  refine ⟨?_, h.hd, ⟨fun j => if j = u then true else D j, (hD.set u _).congr fun i hi => ?_⟩, ⟨D1, h1.setOther (by show d + 1 ≠ d; omega) _⟩, ⟨D2, h2.setOther (by show d + 1 + 1 ≠ d; omega) _⟩, ⟨D3, h3.setOther (by show d + 1 + 1 + 1 ≠ d; omega) _⟩⟩
  · obtain ⟨V, RV, hL⟩ := h.lms
    obtain ⟨cD, hcD, _, _⟩ := hD
    exact ⟨V, RV, hL.grown4 hcD h.hd (grown_set (World.grownBy.refl _ _) (.inl rfl) _)⟩
  · simp only; split <;> rfl

theorem L4.search {w wr : World} {n : Nat} {s : St} {d : Nat} (h : L4 w wr n s d) (hn : n ≤ 4096) (u : Nat) (hu : u < n) (mask : Int) (sb : Nat) (hsb : sb = d + 1 ∨ sb = d + 1 + 1 ∨ sb = d + 1 + 1 + 1)
    (hout : ∀ x, x < n → ∀ e ∈ s.out x, 0 ≤ e.1 ∧ e.1 < n) (hlen : ∀ x, x < n → (s.out x).length ≤ 1073741824) :
    Calls Try.prog 16 #[.pointer (some ⟨w.heap.size + 1, 0, none⟩), .int .i64 n, .int .i64 u, .int .i64 mask, .slice (some ⟨sb, 0, none⟩) n n] wr fun e w' => e = .returned (.bool true) ∧ L4 w w' n s d ∧ wr.grownBy w' (some sb) ∧
      ∃ S : Nat → Bool, w'.rowIs sb 4 n (fun v => .bool (S v)) ∧ ∀ v, Path s.out mask u v → S v = true := by
  obtain ⟨V, RV, hL⟩ := h.lms
  obtain ⟨D, hD⟩ : ∃ D : Nat → Bool, wr.rowIs sb 4 n (fun v => .bool (D v)) := by
    rcases hsb with e | e | e
    · rw [e]; exact h.r1
    · rw [e]; exact h.r2
    · rw [e]; exact h.r3
  have hd := h.hd
  refine (reach_contract hL hn u hu mask sb D hD (by omega) hout hlen).mono ?_
  rintro e w' ⟨he, hg, S, hS, hp⟩
  obtain ⟨cD, hcD, _, _⟩ := hD
  have keep : ∀ x, x ≠ sb → (∃ D : Nat → Bool, wr.rowIs x 4 n (fun v => .bool (D v))) → ∃ D : Nat → Bool, w'.rowIs x 4 n (fun v => .bool (D v)) := by
    rintro x hx ⟨D, hD⟩
    exact ⟨D, hD.of_block (hg.block x hD.lt (by simpa using hx))⟩
  have self : ∃ D : Nat → Bool, w'.rowIs sb 4 n (fun v => .bool (D v)) := ⟨S, hS⟩
  refine ⟨he, ⟨⟨V, RV, hL.grown4 hcD (by omega) hg⟩, hd, keep d (by omega) h.r0, ?_, ?_, ?_⟩, hg, S, hS, hp⟩
  · by_cases e : d + 1 = sb
    · rw [e]; exact self
    · exact keep _ e h.r1
  · by_cases e : d + 1 + 1 = sb
    · rw [e]; exact self
    · exact keep _ e h.r2
  · by_cases e : d + 1 + 1 + 1 = sb
    · rw [e]; exact self
    · exact keep _ e h.r3

set_option maxRecDepth 100000 in
set_option maxHeartbeats 6400000 in
theorem law4 (N : Int) (A : Option Addr) (m c b off : Nat) (T : Nat → Int) (W : Nat → Bool) (w : World) (hI : ScriptAt w A m b off T W) (hT0 : ∀ j, m ≤ j → 0 ≤ T j) :
    Calls Try.prog 4 #[.int .i64 N, .slice A m c] w fun e w' => e = .returned (.bool true) ∧ Below w.heap.size w w' := by
  have HI := hid hI
  have hlen := hI.len
  unfold maxLen at hlen
  have HT0 := hid hT0
  clear hI hT0
  go_enter Try.func4, Try.ntmps4
  go_wp2_with fail
  refine (bytes15_contract N A m c HI.out.len w).mono ?_
  rintro e w1 ⟨rfl, hw⟩
  obtain rfl := hw.symm
  by_cases hm : m ≤ 4096
  · have hm2 : decide (m ≤ 1048576) = true := decide_eq_true (by omega)
    rw [hm2]
    by_cases hN : 0 ≤ N ∧ N ≤ 4096
    · obtain ⟨n, rfl⟩ : ∃ n : Nat, N = (n : Int) := ⟨N.toNat, by omega⟩
      have hn : n ≤ 4096 := by omega
      have hd1 : decide ((4096 : Int) < (m : Int)) = false := decide_eq_false (by omega)
      have hd2 : decide ((n : Int) < 0) = false := decide_eq_false (by omega)
      have hd3 : decide ((4096 : Int) < (n : Int)) = false := decide_eq_false (by omega)
      go_wp2_with fail
      go_loop [5] (fun i => ∃ k : Nat, k ≤ m ∧ i = .int .i64 k ∧ ∀ j, j < k → 0 ≤ T j ∧ T j < n) (fun i => m - (intOf i).toNat)
      case atStart => exact ⟨0, Nat.zero_le _, rfl, fun j hj => by omega⟩
      case round =>
        obtain ⟨k, hk, rfl, hok⟩ := hrel
        have HK := hid hok
        clear hok
        by_cases hlt : k < m
        · have hix := fun w => run_indexAt_any (P := Try.prog) 22 25 A m c b off 2 Try.underlying22 size25 HI.out.at0 k hlt w
          have hc0 := HI.out.txn k hlt
          have hrg := HI.out.range k hlt
          by_cases h0 : T k < 0
          · have hd0 : decide (T k < 0) = true := decide_eq_true h0
            go_wp2
            go_ret
            exact ⟨rfl, Below.refl _ _⟩
          · by_cases h1 : (n : Int) ≤ T k
            · have hd1 : decide ((n : Int) ≤ T k) = true := decide_eq_true h1
              go_wp2
              go_ret
              exact ⟨rfl, Below.refl _ _⟩
            · go_wp2
              go_round
              case rel => exact ⟨k + 1, by omega, by go_num, fun j hj => by
                by_cases e : j = k
                · subst e; omega
                · exact HK.out j (by omega)⟩
              case measure => simp [intOf]; omega
        · have hke : m = k := by omega
          subst hke
          go_wp2_with fail
          refine (newWalked_contract n (by omega) w).mono ?_
          rintro e w1 ⟨rfl, hw1⟩
          have HW1 := hid hw1
          clear hw1
          go_wp2_with fail
          refine (newKey_contract w1).mono ?_
          rintro e w2 ⟨rfl, hw2⟩
          have hsz : w1.heap.size = w.heap.size + 2 := by rw [HW1.out]; simp
          have hL0 : Hid (LMS w.heap.size w w2 w.heap.size (w.heap.size + 1) (w.heap.size + 2) n (runs T W 0)) := by
            rw [hw2, HW1.out]; exact ⟨_, _, LM.start w n⟩
          rw [hsz]
          clear HW1 hw2 hsz
          go_wp2_with fail
          go_loopw [9] (fun i wr => ∃ k : Nat, k ≤ m ∧ i = .int .i64 k ∧ LMS w.heap.size w wr w.heap.size (w.heap.size + 1) (w.heap.size + 2) n (runs T W k)) (fun i _ => m - (intOf i).toNat)
          case atStart => exact ⟨0, Nat.zero_le _, rfl, hL0.out⟩
          case round =>
            clear hL0
            obtain ⟨k, hk, rfl, hL⟩ := hrel
            have HL := hid hL
            clear hL
            by_cases hlt : k < m
            · have hix := fun w => run_indexAt_any (P := Try.prog) 22 25 A m c b off 2 Try.underlying22 size25 HI.out.at0 k hlt w
              have hlow := HI.out.low (by omega)
              have hc0 : wr.cell? ⟨b, off + k * 2, none⟩ = some (.int .i32 (T k)) := (HL.out.below.cell hlow).trans (HI.out.txn k hlt)
              have hc1 : wr.cell? ⟨b, off + k * 2 + 1, none⟩ = some (.bool (W k)) := (HL.out.below.cell hlow).trans (HI.out.write k hlt)
              have hrg := HI.out.range k hlt
              have hlwr := hid (lw_range (W := W) HK.out k (by omega))
              have hrdr := hid (rd_range (W := W) HK.out k (by omega))
              have hzl := hid (fun (wx : World) (line : Int) (hx : LMS w.heap.size w wx w.heap.size (w.heap.size + 1) (w.heap.size + 2) n (runs T W k)) => zlink_contract hx (T k) (HK.out k hlt).1 hlwr.out.1 hlwr.out.2
                (fun u hu => by have := out_len (T := T) (W := W) u k; omega) (by have := rd_len (T := T) (W := W) k; omega) hrdr.out (k : Int) line 0 0 (W k) false)
              have hdr := hid HL.out.drew
              go_wp2_with fail
              go_region_held3 (fun w' => w'.cell? ⟨b, off + k * 2, none⟩ = some (.int .i32 (T k)) ∧ w'.cell? ⟨b, off + k * 2 + 1, none⟩ = some (.bool (W k)))
                (go_keep)
                (first
                  | (go_at_call 9
                     refine (hzl.out _ _ hdr.out).mono ?_
                     rintro e w3 ⟨⟨v, rfl⟩, h3, h4⟩
                     have hc3 : w3.cell? ⟨b, off + k * 2, none⟩ = some (.int .i32 (T k)) := (h3.below.cell hlow).trans (HI.out.txn k hlt)
                     have hc4 : w3.cell? ⟨b, off + k * 2 + 1, none⟩ = some (.bool (W k)) := (h3.below.cell hlow).trans (HI.out.write k hlt)
                     have H3 := hid h3
                     clear h3 h4))
              go_wp2
              go_roundw
              case rel => exact ⟨k + 1, by omega, by go_num, H3.out⟩
              case measure => simp [intOf]; omega
            · have hke : m = k := by omega
              subst hke
              have hmk := run_make_row' (P := Try.prog) 38 4 (.bool false) 1 Try.underlying38 Try.info4 rfl .i64 .i64 n (by omega) (by omega)
              have H4 := hid (L4.start HL.out)
              have hor := hid (out_range (W := W) HK.out m (Nat.le_refl _))
              have hol : Hid (∀ x, x < n → ((runs T W m).out x).length ≤ 1073741824) := fun x _ => by have := out_len (T := T) (W := W) x m; omega
              have h0 : Hid (∀ j, 0 ≤ T j) := fun j => by
                by_cases hj : j < m
                · exact (HK.out j hj).1
                · exact HT0.out j (by omega)
              go_wp2_with fail
              obtain ⟨wl, hwl⟩ : ∃ wl : World, wl = ((((wr.alloc (.cells (madeCells #[.bool false] n) 4)).alloc (.cells (madeCells #[.bool false] n) 4)).alloc (.cells (madeCells #[.bool false] n) 4)).alloc (.cells (madeCells #[.bool false] n) 4)) := ⟨_, rfl⟩
              obtain ⟨d, hde⟩ : ∃ d : Nat, d = wr.heap.size := ⟨_, rfl⟩
              rw [← hwl, ← hde] at H4 ⊢
              clear hwl hde HL hmk
              obtain ⟨s, hse⟩ : ∃ s, s = runs T W m := ⟨_, rfl⟩
              rw [← hse] at H4 hor hol
              have HS := hid hse
              clear hse
              go_loopw [14] (fun i wr => ∃ k : Nat, k ≤ m ∧ i = .int .i64 k ∧ L4 w wr n s d) (fun i _ => m - (intOf i).toNat)
              case atStart => exact ⟨0, Nat.zero_le _, rfl, H4.out⟩
              case round =>
                clear H4
                obtain ⟨k, hk, rfl, hL⟩ := hrel
                have HL := hid hL
                clear hL
                by_cases hlt : k < m
                · have hix := fun w => run_indexAt_any (P := Try.prog) 22 25 A m c b off 2 Try.underlying22 size25 HI.out.at0 k hlt w
                  have hlow := HI.out.low (by omega)
                  have hc0 : wr.cell? ⟨b, off + k * 2, none⟩ = some (.int .i32 (T k)) := (HL.out.lms.below.cell hlow).trans (HI.out.txn k hlt)
                  have hTk := HK.out k hlt
                  obtain ⟨u, hu⟩ : ∃ u : Nat, T k = (u : Int) := ⟨(T k).toNat, by omega⟩
                  rw [hu] at hc0 hTk
                  have hun : u < n := by omega
                  obtain ⟨D, hD⟩ := HL.out.r0
                  have hcd := hD.cell hun
                  have hfd := hD.frozen u
                  clear hD
                  by_cases hDu : D u = true
                  · rw [hDu] at hcd
                    go_wp2
                    go_roundw
                    case rel => exact ⟨k + 1, by omega, by go_num, HL.out⟩
                    case measure => simp [intOf]; omega
                  · have hDf : D u = false := by simpa using hDu
                    rw [hDf] at hcd
                    clear hDu hDf
                    go_wp2_with fail
                    have H1 := hid (HL.out.mark u)
                    clear HL hc0 hcd hfd
                    refine (H1.out.search hn u hun 1 (d + 1) (.inl rfl) (fun x _ => hor.out x) hol.out).mono ?_
                    rintro e w1 ⟨rfl, h1, hg1, S1, hr1, hp1⟩
                    have G1 := hid h1
                    have R1 := hid hr1
                    have P1 := hid hp1
                    clear h1 hg1 hr1 hp1 H1
                    go_wp2_with fail
                    refine (G1.out.search hn u hun 2 (d + 1 + 1) (.inr (.inl rfl)) (fun x _ => hor.out x) hol.out).mono ?_
                    rintro e w2 ⟨rfl, h2, hg2, S2, hr2, hp2⟩
                    have G2 := hid h2
                    have R2 := hid hr2
                    have P2 := hid hp2
                    have R12 := hid (R1.out.of_block (hg2.block _ R1.out.lt (by simp)))
                    clear h2 hg2 hr2 hp2 G1 R1
                    go_wp2_with fail
                    refine (G2.out.search hn u hun 3 (d + 1 + 1 + 1) (.inr (.inr rfl)) (fun x _ => hor.out x) hol.out).mono ?_
                    rintro e w3 ⟨rfl, h3, hg3, S3, hr3, hp3⟩
                    have G3 := hid h3
                    have R3 := hid hr3
                    have P3 := hid hp3
                    have R13 := hid (R12.out.of_block (hg3.block _ R12.out.lt (by simp)))
                    have R23 := hid (R2.out.of_block (hg3.block _ R2.out.lt (by simp)))
                    clear h3 hg3 hr3 hp3 G2 R12 R2
                    go_wp2_with fail
                    have hlow3 := hid (fun (x : Nat) => G3.out.lms.below.cell (p := ⟨b, x, none⟩) hlow)
                    have hPW := hid (fun (a y : Nat) (hay : a < y) (hy : y < m) (ha : T a = (u : Int)) (hne : T y ≠ (u : Int)) => (⟨fun h1 h2 => P1.out _ (by
                        have := reach_ww (m := m) hay hy h1 h2 h0.out (by rw [ha]; exact fun e => hne e.symm)
                        rw [ha] at this; rw [HS.out]; exact this),
                      fun h1 h2 => P2.out _ (by
                        have := reach_wr (m := m) hay hy h1 h2 h0.out (by rw [ha]; exact fun e => hne e.symm)
                        rw [ha] at this; rw [HS.out]; exact this),
                      fun h1 h2 => P3.out _ (by
                        have := reach_rw (m := m) hay hy h1 h2 h0.out (by rw [ha]; exact fun e => hne e.symm)
                        rw [ha] at this; rw [HS.out]; exact this)⟩ :
                      (W a = true → W y = true → S1 (T y).toNat = true) ∧ (W a = true → W y = false → S2 (T y).toNat = true) ∧ (W a = false → W y = true → S3 (T y).toNat = true)))
                    clear P1 P2 P3 hor hol HS h0 hix hu
                    go_loop [16] (fun i => ∃ a : Nat, k ≤ a ∧ a ≤ m ∧ i = .int .i64 a) (fun i => m - (intOf i).toNat)
                    case atStart => exact ⟨k, Nat.le_refl _, by omega, rfl⟩
                    case round =>
                      obtain ⟨a, hka, ham, rfl⟩ := hrel
                      by_cases hlta : a < m
                      · have hix := fun w => run_indexAt_any (P := Try.prog) 22 25 A m c b off 2 Try.underlying22 size25 HI.out.at0 a hlta w
                        have hca : w3.cell? ⟨b, off + a * 2, none⟩ = some (.int .i32 (T a)) := (hlow3.out _).trans (HI.out.txn a hlta)
                        have hwa : w3.cell? ⟨b, off + a * 2 + 1, none⟩ = some (.bool (W a)) := (hlow3.out _).trans (HI.out.write a hlta)
                        by_cases hau : T a = (u : Int)
                        · have hab : (T a == (u : Int)) = true := by simp [hau]
                          rw [hau] at hca
                          clear hab
                          go_wp2_with fail
                          clear hca
                          go_loop [17] (fun i => ∃ y : Nat, a + 1 ≤ y ∧ y ≤ m ∧ i = .int .i64 y) (fun i => m - (intOf i).toNat)
                          case atStart => exact ⟨a + 1, Nat.le_refl _, by omega, by go_num⟩
                          case round =>
                            obtain ⟨y, hay, hym, rfl⟩ := hrel
                            by_cases hlty : y < m
                            · have hiy := fun w => run_indexAt_any (P := Try.prog) 22 25 A m c b off 2 Try.underlying22 size25 HI.out.at0 y hlty w
                              have hcy : w3.cell? ⟨b, off + y * 2, none⟩ = some (.int .i32 (T y)) := (hlow3.out _).trans (HI.out.txn y hlty)
                              have hwy : w3.cell? ⟨b, off + y * 2 + 1, none⟩ = some (.bool (W y)) := (hlow3.out _).trans (HI.out.write y hlty)
                              have hTy := HK.out y hlty
                              by_cases hyu : T y = (u : Int)
                              · have hyb : (T y == (u : Int)) = true := by simp [hyu]
                                rw [hyu] at hcy
                                clear hyb
                                go_wp2
                                go_round
                                case rel => exact ⟨y + 1, by omega, by omega, by go_num⟩
                                case measure => simp [intOf]; omega
                              · obtain ⟨h1, h2, h3⟩ := hPW.out a y (by omega) hlty hau hyu
                                obtain ⟨v, hv⟩ : ∃ v : Nat, T y = (v : Int) := ⟨(T y).toNat, by omega⟩
                                rw [hv] at hcy hTy h1 h2 h3
                                have hvu : (v : Int) ≠ (u : Int) := by rw [← hv]; exact hyu
                                have hyb : ((v : Int) == (u : Int)) = false := by simpa using hvu
                                have hvn : v < n := by omega
                                simp only [Int.toNat_natCast] at h1 h2 h3
                                have q1 := R13.out.cell hvn
                                have q2 := R23.out.cell hvn
                                have q3 := R3.out.cell hvn
                                clear hvu hyu hau
                                cases ea : W a with
                                | true =>
                                  cases ey : W y with
                                  | true =>
                                    rw [ea] at hwa
                                    rw [ey] at hwy
                                    rw [h1 ea ey] at q1
                                    clear h1 h2 h3 ea ey hv q2 q3
                                    go_wp2
                                    go_round
                                    case rel => exact ⟨y + 1, by omega, by omega, by go_num⟩
                                    case measure => simp [intOf]; omega
                                  | false =>
                                    rw [ea] at hwa
                                    rw [ey] at hwy
                                    rw [h2 ea ey] at q2
                                    clear h1 h2 h3 ea ey hv q1 q3
                                    go_wp2
                                    go_round
                                    case rel => exact ⟨y + 1, by omega, by omega, by go_num⟩
                                    case measure => simp [intOf]; omega
                                | false =>
                                  cases ey : W y with
                                  | true =>
                                    rw [ea] at hwa
                                    rw [ey] at hwy
                                    rw [h3 ea ey] at q3
                                    clear h1 h2 h3 ea ey hv q1 q2
                                    go_wp2
                                    go_round
                                    case rel => exact ⟨y + 1, by omega, by omega, by go_num⟩
                                    case measure => simp [intOf]; omega
                                  | false =>
                                    rw [ea] at hwa
                                    rw [ey] at hwy
                                    clear h1 h2 h3 ea ey hv q1 q2 q3
                                    go_wp2
                                    go_round
                                    case rel => exact ⟨y + 1, by omega, by omega, by go_num⟩
                                    case measure => simp [intOf]; omega
                            · have hye : m = y := by omega
                              subst hye
                              go_wp2
                              go_round
                              case rel => exact ⟨a + 1, by omega, by omega, by go_num⟩
                              case measure => simp [intOf]; omega
                        · have hab : (T a == (u : Int)) = false := by simp [hau]
                          go_wp2
                          go_round
                          case rel => exact ⟨a + 1, by omega, by omega, by go_num⟩
                          case measure => simp [intOf]; omega
                      · have hae : m = a := by omega
                        subst hae
                        go_wp2
                        go_roundw
                        case rel => exact ⟨k + 1, by omega, by go_num, G3.out⟩
                        case measure => simp [intOf]; omega
                · have hke : m = k := by omega
                  subst hke
                  go_wp2
                  go_ret
                  exact ⟨rfl, HL.out.lms.below⟩
    · by_cases hN0 : N < 0
      · have hd1 : decide ((4096 : Int) < (m : Int)) = false := decide_eq_false (by omega)
        have hd2 : decide (N < 0) = true := decide_eq_true hN0
        go_wp2
        go_ret
        exact ⟨rfl, Below.refl _ _⟩
      · have hd1 : decide ((4096 : Int) < (m : Int)) = false := decide_eq_false (by omega)
        have hd2 : decide (N < 0) = false := decide_eq_false hN0
        have hd3 : decide ((4096 : Int) < N) = true := decide_eq_true (by omega)
        go_wp2
        go_ret
        exact ⟨rfl, Below.refl _ _⟩
  · by_cases hm2 : m ≤ 1048576
    · have hd0 : decide (m ≤ 1048576) = true := decide_eq_true hm2
      rw [hd0]
      have hd1 : decide ((4096 : Int) < (m : Int)) = true := decide_eq_true (by omega)
      go_wp2
      go_ret
      exact ⟨rfl, Below.refl _ _⟩
    · have hd0 : decide (m ≤ 1048576) = false := decide_eq_false hm2
      rw [hd0]
      go_wp2
      go_ret
      exact ⟨rfl, Below.refl _ _⟩
end Go.Proofs.Qxb6601799a
