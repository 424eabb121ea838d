import Derived.Test.Qxb6601772aTable
namespace Go.Proofs.Qxb6601772a
open Go.ChangeShapes Go.WideShapes Go.ChangeAt Go.RowKit Go.Maps Go.Deep

theorem LT.setSz {B : Nat} {w wr : World} {tree sz sp : Value} {n : Nat} {D : DataW Unit} (h : LT B w wr tree sz sp n D) (v : Value) : LT B w (wr.setCell ⟨B + 1 + 1 + 1 + 1, 4, none⟩ v) tree v sp n D where
  m0 := by rw [Below.heap_setCell _ _ _ _ (by simp; omega)]; exact h.m0
  m1 := by rw [Below.heap_setCell _ _ _ _ (by simp; try omega)]; exact h.m1
  m2 := by rw [Below.heap_setCell _ _ _ _ (by simp; try omega)]; exact h.m2
  own := by
    obtain ⟨es, clock, hb, F, hs, hD⟩ := h.own
    exact ⟨es, clock, by rw [Below.heap_setCell _ _ _ _ (by simp; try omega)]; exact hb, F, hs, hD⟩
  box := by simp [World.setCell, Array.getElem?_modify, h.box]
  below := h.below.setCell (by simp; omega) v

theorem LT.setSp {B : Nat} {w wr : World} {tree sz sp : Value} {n : Nat} {D : DataW Unit} (h : LT B w wr tree sz sp n D) (v : Value) : LT B w (wr.setCell ⟨B + 1 + 1 + 1 + 1, 5, none⟩ v) tree sz v n D where
  m0 := by rw [Below.heap_setCell _ _ _ _ (by simp; omega)]; exact h.m0
  m1 := by rw [Below.heap_setCell _ _ _ _ (by simp; try omega)]; exact h.m1
  m2 := by rw [Below.heap_setCell _ _ _ _ (by simp; try omega)]; exact h.m2
  own := by
    obtain ⟨es, clock, hb, F, hs, hD⟩ := h.own
    exact ⟨es, clock, by rw [Below.heap_setCell _ _ _ _ (by simp; try omega)]; exact hb, F, hs, hD⟩
  box := by simp [World.setCell, Array.getElem?_modify, h.box]
  below := h.below.setCell (by simp; omega) v

/-- a store into a block behind the table -/
theorem LT.setOther {B : Nat} {w wr : World} {tree sz sp : Value} {n : Nat} {D : DataW Unit} (h : LT B w wr tree sz sp n D) {a : Addr} (ha : B + 1 + 1 + 1 + 1 < a.block) (v : Value) : LT B w (wr.setCell a v) tree sz sp n D where
  m0 := by rw [Below.heap_setCell _ _ _ _ (by omega)]; exact h.m0
  m1 := by rw [Below.heap_setCell _ _ _ _ (by omega)]; exact h.m1
  m2 := by rw [Below.heap_setCell _ _ _ _ (by omega)]; exact h.m2
  own := by
    obtain ⟨es, clock, hb, F, hs, hD⟩ := h.own
    exact ⟨es, clock, by rw [Below.heap_setCell _ _ _ _ (by omega)]; exact hb, F, hs, hD⟩
  box := by rw [Below.heap_setCell _ _ _ _ (by omega)]; exact h.box
  below := h.below.setCell (by omega) v

/-- node i's count -/
def szv (m i : Nat) : Nat := if i = 0 then 0 else lv i m m

/-- the row of counts, all above k filled -/
def szRow (m : Nat) (k : Int) (i : Nat) : Value := .int .i64 (if k < (i : Int) then (szv m i : Int) else 0)

set_option maxHeartbeats 1600000 in
theorem table24_tree (A : Option Addr) (n c b off : Nat) (K T : Nat → Int) (S : Nat → ByteArray) (KL : Nat → Lit) (A2 : Option Addr) (m c2 tb : Nat) (w : World) (hI : InAt w A n b off K T S) (hn : n ≤ 1048576) (hm : m ≤ 65536)
    (hK : ∀ i, i < n → keyOf Try.prog 61 (keyVal (T i) (S i)) = some (KL i)) (htb : tb < w.heap.size) (htc : w.cell? ⟨tb, 0, none⟩ = some (.slice A2 m c2)) :
    Calls Try.prog 24 #[.slice A n c, .pointer (some ⟨tb, 0, none⟩)] w fun e w' => e = .returned (.pointer (some ⟨w.heap.size + 1 + 1 + 1 + 1, 0, none⟩)) ∧
      ∃ Z Q, LT w.heap.size w w' (.pointer (some ⟨tb, 0, none⟩)) (.slice (some ⟨Z, 0, none⟩) (2 * m) (2 * m)) (.map (some Q)) n (Dm K KL n) ∧ w'.rowIs Z 3 (2 * m) (szRow m 0) ∧ w'.heap[Q]? = some (.map #[] 0) := by
  have hmm := @run_makeMap Try.prog
  have HI := hid hI
  have HK := hid hK
  have HT := hid htc
  clear hI hK htc
  go_enter Try.func24, Try.ntmps24
  go_wp2
  go_loopw [19] (fun i wr => ∃ k : Nat, k ≤ n ∧ i = .int .i64 k ∧ LT w.heap.size w wr (.pointer (some ⟨tb, 0, none⟩)) (.slice none 0 0) (.map none) k (Dm K KL k)) (fun i _ => n - (intOf i).toNat)
  case atStart => exact ⟨0, Nat.zero_le _, rfl, LT.start w _⟩
  case round =>
    obtain ⟨k, hk, rfl, hL⟩ := hrel
    have HL := hid hL
    by_cases hlt : k < n
    · have hbb := HI.out.low (by omega)
      have hix := fun w => run_indexAt_any (P := Try.prog) 43 46 A n c b off 3 Try.underlying43 size46 HI.out.at0 k hlt w
      have hc0 : wr.cell? ⟨b, off + k * 3, none⟩ = some (.int .u8 (K k)) := (hL.below.cell hbb).trans (HI.out.kind k hlt)
      have hc1 : wr.cell? ⟨b, off + k * 3 + 1, none⟩ = some (.int .u64 (T k)) := (hL.below.cell hbb).trans (HI.out.txn k hlt)
      have hc2 : wr.cell? ⟨b, off + k * 3 + 2, none⟩ = some (.string (S k)) := (hL.below.cell hbb).trans (HI.out.item k hlt)
      have hc7 := hL.cell 7 (.map (some (w.heap.size + 1 + 1 + 1))) rfl
      have hsz := hL.lt
      clear hL hmm
      by_cases h117 : K k = 117
      · have hq : (K k == 117) = true := by simp [h117]
        have HD : Hid (Dm K KL (k + 1) = (Dm K KL k).put (KL k) (.lit (.int .i64 (k : Int)))) := by simp [Hid, Dm, h117]
        clear h117
        obtain ⟨w1, hrun, hown1, hgrow1⟩ := ((HL.out.alloc (.cells #[.int .u8 (K k), .int .u64 (T k), .string (S k)] 46)).drew).own.update law61 Try.underlying56 (by unfold maxLen; omega) (HK.out k hlt) (plainElem_int Try.underlying3 (WalkArith.wf_i64 (by omega) : (Lit.int .i64 (k : Int)).wf = true))
        unfold keyVal at hrun
        have HG := hid hgrow1
        have HO := hid hown1
        clear hown1 hgrow1
        go_wp2
        go_region
        all_goals go_wp2
        all_goals go_roundw
        case rel => exact ⟨k + 1, by omega, by go_num, by rw [HD.out]; exact ((HL.out.alloc _).drew).grown HG.out HO.out⟩
        case measure => simp [intOf]; omega
      · have hq : (K k == 117) = false := by simp [h117]
        have HD : Hid (Dm K KL (k + 1) = Dm K KL k) := by simp [Hid, Dm, h117]
        clear h117
        go_wp2
        go_roundw
        case rel => exact ⟨k + 1, by omega, by go_num, by rw [HD.out]; exact (HL.out.alloc _).mono (by omega)⟩
        case measure => simp [intOf]; omega
    · obtain rfl : k = n := by omega
      have hc3 := hL.cell 3 (.pointer (some ⟨tb, 0, none⟩)) rfl
      have hc4 := hL.cell 4 (.slice none 0 0) rfl
      have hf4 := hL.frozen 4
      have htc : wr.cell? ⟨tb, 0, none⟩ = some (.slice A2 m c2) := (hL.below.cell htb).trans HT.out
      have hsz := hL.lt
      have hmk := run_make_row' (P := Try.prog) 22 3 (.int .i64 0) 8 Try.underlying22 Try.info3 rfl .i64 .i64 (2 * m) (by omega) (by omega)
      rw [show ((2 * m : Nat) : Int) = 2 * (m : Int) from by omega] at hmk
      clear hL
      go_wp2
      obtain ⟨wo, hwo⟩ : ∃ wo : World, wo = wr := ⟨_, rfl⟩
      rw [← hwo] at HL hc3 hc4 hf4 htc hsz ⊢
      clear hwo wr hc3 hc4 hf4 htc
      go_loopw [9] (fun i wr => ∃ k2 : Int, -1 ≤ k2 ∧ k2 < 2 * m ∧ i = .int .i64 k2 ∧ LT w.heap.size w wr (.pointer (some ⟨tb, 0, none⟩)) (.slice (some ⟨wo.heap.size, 0, none⟩) (2 * m) (2 * m)) (.map none) k (Dm K KL k) ∧ wr.rowIs wo.heap.size 3 (2 * m) (szRow m k2)) (fun i _ => (intOf i).toNat)
      case atStart =>
        refine ⟨_, by omega, by omega, rfl, (HL.out.setSz _).alloc _, ?_⟩
        have h := World.rowIs_made (wo.setCell ⟨w.heap.size + 1 + 1 + 1 + 1, 4, none⟩ (.slice (some ⟨wo.heap.size, 0, none⟩) (2 * m) (2 * m))) (.int .i64 0) (2 * m) 3
        have e : (wo.setCell ⟨w.heap.size + 1 + 1 + 1 + 1, 4, none⟩ (.slice (some ⟨wo.heap.size, 0, none⟩) (2 * m) (2 * m))).heap.size = wo.heap.size := by simp
        rw [e] at h
        exact h.congr fun i hi => by unfold szRow; rw [if_neg (by omega)]
      case round =>
        clear hmk
        obtain ⟨k2, hk0, hk1, rfl, hL, hrow⟩ := hrel
        have HL := hid hL
        have HR := hid hrow
        by_cases hpos : 0 < k2
        · obtain ⟨x, rfl⟩ := Int.eq_ofNat_of_zero_le (Int.le_of_lt hpos)
          have hc4 := hL.cell 4 _ rfl
          have hcx := hrow.cell (i := x) (by omega)
          have hfx := hrow.frozen x
          have hlt2 := hL.lt
          by_cases hxm : m ≤ x
          · clear hL hrow
            go_wp2
            go_roundw
            case rel =>
              refine ⟨(x : Int) - 1, by omega, by omega, rfl, HL.out.setOther (by simp; omega) _, (HR.out.set x _).congr fun i hi => ?_⟩
              by_cases e : i = x
              · subst e
                rw [if_pos rfl]
                unfold szRow szv
                rw [if_pos (by omega), if_neg (by omega), lv_self (by omega) hxm (by omega)]
                rfl
              · rw [if_neg e]
                unfold szRow
                by_cases h1 : x < i
                · rw [if_pos (by omega), if_pos (by omega)]
                · rw [if_neg (by omega), if_neg (by omega)]
            case measure => simp [intOf]; omega
          · have hr1 := hrow.cell (i := 2 * x) (by omega)
            have hr2 := hrow.cell (i := 2 * x + 1) (by omega)
            have e1 : szRow m x (2 * x) = .int .i64 ((lv (2 * x) m m : Nat) : Int) := by unfold szRow szv; rw [if_pos (by omega), if_neg (by omega)]
            have e2 : szRow m x (2 * x + 1) = .int .i64 ((lv (2 * x + 1) m m : Nat) : Int) := by unfold szRow szv; rw [if_pos (by omega), if_neg (by omega)]
            rw [e1] at hr1
            rw [e2] at hr2
            have hb1 := lv_le (2 * x) m m
            have hb2 := lv_le (2 * x + 1) m m
            have HV : Hid (lv x m m = lv (2 * x) m m + lv (2 * x + 1) m m) := lv_kids (by omega) (by omega) m
            clear e1 e2 hL hrow
            generalize lv (2 * x) m m = v1 at *
            generalize lv (2 * x + 1) m m = v2 at *
            go_wp2
            go_region
            all_goals go_wp2
            all_goals go_roundw
            case rel =>
              refine ⟨(x : Int) - 1, by omega, by omega, rfl, (HL.out.setOther (by simp; omega) _).drew, ((HR.out.set x _).drew).congr fun i hi => ?_⟩
              by_cases e : i = x
              · subst e
                rw [if_pos rfl]
                unfold szRow szv
                rw [if_pos (by omega), if_neg (by omega), HV.out]
                go_num
              · rw [if_neg e]
                unfold szRow
                by_cases h1 : x < i
                · rw [if_pos (by omega), if_pos (by omega)]
                · rw [if_neg (by omega), if_neg (by omega)]
            case measure => simp [intOf]; omega
        · have e0 : ∀ i, szRow m k2 i = szRow m 0 i := fun i => by
            unfold szRow
            by_cases hi : i = 0
            · subst hi
              simp [szv]
            · rw [if_pos (by omega), if_pos (by omega)]
          have HR := hid (hrow.congr fun i _ => e0 i)
          have hc5 := hL.cell 5 _ rfl
          have hf5 := hL.frozen 5
          have hlt2 := hL.lt
          clear hL hrow e0
          go_wp2
          go_ret
          refine ⟨rfl, wo.heap.size, wr.heap.size, (HL.out.setSp _).alloc _, (HR.out.setOther (by simp; omega) _).alloc _, ?_⟩
          have h := blk_alloc_new (wr.setCell ⟨w.heap.size + 1 + 1 + 1 + 1, 5, none⟩ (.map (some wr.heap.size))) (.map #[] 0)
          have e : (wr.setCell ⟨w.heap.size + 1 + 1 + 1 + 1, 5, none⟩ (.map (some wr.heap.size))).heap.size = wr.heap.size := by simp
          rw [e] at h
          exact h
end Go.Proofs.Qxb6601772a
