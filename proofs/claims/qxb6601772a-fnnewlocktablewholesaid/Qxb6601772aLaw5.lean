import Derived.Test.Qxb6601772aSmall
import Derived.LaidEqlPtr
namespace Go.Proofs.Qxb6601772a
open Go.ChangeShapes Go.WideShapes Go.ChangeAt Go.RowKit Go.Maps Go.Deep

theorem Try.info46 : (Try.prog.info? 46).map (fun i => (i.zero, i.size, i.bytes)) = some (some (.agg #[.int .u8 0, .int .u64 0, .string ⟨#[]⟩]), 3, 32) := by kernel_rfl

theorem run_neq_ptr_same {P : Program} (w : World) {tp te : TypeId} {j : TypeInfo} (a : Addr) (hp : P.underlying tp = some (.pointer te)) (hte : P.info? te = some j) :
    (binOp .neq tp (.pointer (some a)) (.pointer (some a))).run P w = .ok (.bool false) w := by
  have h : ∀ d : Nat, (Op.equalIn (d + 1) tp (.pointer (some a)) (.pointer (some a))).run P w = .ok true w := fun d => by
    simp [Op.equalIn, run_underlying hp, sizeOf, typeInfo, hte, run_sameAddr_same]
  simp only [binOp]
  simp [Op.equal, Op.maxDepth, h 9999]

theorem info68 : ∃ j, Try.prog.info? 68 = some j := Option.isSome_iff_exists.1 (by kernel_rfl)

/-- make([]T, n) at whatever number of cells -/
theorem run_make_any {P : Program} (t e : TypeId) (z : Value) (size bytes : Nat) (ht : P.underlying t = some (.slice e)) (hinfo : (P.info? e).map (fun i => (i.zero, i.size, i.bytes)) = some (some z, size, bytes))
    (n : Nat) (hbytes : bytes * n ≤ 281474976710656) (h63 : n ≤ 9223372036854775807) (w : World) :
    (Instr.makeSlice t (.int .i64 (n : Int)) (.int .i64 (n : Int))).run P w = .ok (.slice (some ⟨w.heap.size, 0, none⟩) n n) (w.alloc (.cells (madeCells z.cells (n * size)) e)) := by
  obtain ⟨i, hi, hzz⟩ := Option.map_eq_some_iff.1 hinfo
  simp only [Prod.mk.injEq] at hzz
  obtain ⟨hz, hs, hb⟩ := hzz
  have hb' : (i.bytes : Int) * (n : Int) ≤ 281474976710656 := by
    have h : ((i.bytes * n : Nat) : Int) ≤ 281474976710656 := by rw [hb]; omega
    rwa [Int.natCast_mul] at h
  have hr := run_make (P := P) w t e i z ht hi hz .i64 .i64 n n (by omega) (Int.le_refl _) hb' (by omega)
  simp only [Int.toNat_natCast, hs] at hr
  exact hr

/-- cell i of the copied steps, the first k of them copied -/
def stepRow (K T : Nat → Int) (S : Nat → ByteArray) (k i : Nat) : Value :=
  if i / 3 < k then (if i % 3 = 0 then .int .u8 (K (i / 3)) else if i % 3 = 1 then .int .u64 (T (i / 3)) else .string (S (i / 3)))
  else (if i % 3 = 0 then .int .u8 0 else if i % 3 = 1 then .int .u64 0 else .string ⟨#[]⟩)

theorem stepRow_start (K T : Nat → Int) (S : Nat → ByteArray) (w : World) (n : Nat) : (w.alloc (.cells (madeCells #[.int .u8 0, .int .u64 0, .string ⟨#[]⟩] (n * 3)) 46)).rowIs w.heap.size 46 (n * 3) (stepRow K T S 0) := by
  refine ⟨_, blk_alloc_new _ _, size_madeCells _ _, fun i hi => ?_⟩
  simp [madeCells, hi, stepRow]
  have : i % 3 = 0 ∨ i % 3 = 1 ∨ i % 3 = 2 := by omega
  rcases this with h | h | h <;> simp [h]

theorem stepRow_step {K T : Nat → Int} {S : Nat → ByteArray} {w : World} {B n k : Nat} (h : w.rowIs B 46 (n * 3) (stepRow K T S k)) :
    (((w.setCell ⟨B, k * 3, none⟩ (.int .u8 (K k))).setCell ⟨B, k * 3 + 1, none⟩ (.int .u64 (T k))).setCell ⟨B, k * 3 + 2, none⟩ (.string (S k))).rowIs B 46 (n * 3) (stepRow K T S (k + 1)) := by
  refine (((h.set (k * 3) _).set (k * 3 + 1) _).set (k * 3 + 2) _).congr fun i hi => ?_
  by_cases e2 : i = k * 3 + 2
  · subst e2
    rw [if_pos rfl]
    unfold stepRow
    rw [show (k * 3 + 2) / 3 = k by omega, show (k * 3 + 2) % 3 = 2 by omega, if_pos (by omega)]
    rfl
  · rw [if_neg e2]
    by_cases e1 : i = k * 3 + 1
    · subst e1
      rw [if_pos rfl]
      unfold stepRow
      rw [show (k * 3 + 1) / 3 = k by omega, show (k * 3 + 1) % 3 = 1 by omega, if_pos (by omega)]
      rfl
    · rw [if_neg e1]
      by_cases e0 : i = k * 3
      · subst e0
        rw [if_pos rfl]
        unfold stepRow
        rw [show (k * 3) / 3 = k by omega, show (k * 3) % 3 = 0 by omega, if_pos (by omega)]
        rfl
      · rw [if_neg e0]
        unfold stepRow
        by_cases h1 : i / 3 < k
        · have h2 : i / 3 < k + 1 := by omega
          simp only [h1, h2, if_true]
        · have h2 : ¬ i / 3 < k + 1 := by omega
          simp only [h1, h2, if_false]

theorem steps_in {w : World} {B n : Nat} {K T : Nat → Int} {S : Nat → ByteArray} (h : w.rowIs B 46 (n * 3) (stepRow K T S n)) (hl : ∀ i, i < n → (S i).size ≤ maxLen) (hm : n ≤ maxLen) : InAt w (some ⟨B, 0, none⟩) n B 0 K T S where
  at0 := fun _ => rfl
  kind := fun i hi => by
    rw [Nat.zero_add, h.cell (by omega)]
    unfold stepRow
    rw [show (i * 3) / 3 = i by omega, show (i * 3) % 3 = 0 by omega, if_pos hi]
    rfl
  txn := fun i hi => by
    rw [Nat.zero_add, h.cell (by omega)]
    unfold stepRow
    rw [show (i * 3 + 1) / 3 = i by omega, show (i * 3 + 1) % 3 = 1 by omega, if_pos hi]
    rfl
  item := fun i hi => by
    rw [Nat.zero_add, h.cell (by omega)]
    unfold stepRow
    rw [show (i * 3 + 2) / 3 = i by omega, show (i * 3 + 2) % 3 = 2 by omega, if_pos hi]
    rfl
  len := hl
  low := fun _ => h.lt
  most := hm

/-- the model's row at leaf j, k: how far up it has come -/
def upRow (m j k i : Nat) : Value := .int .i64 ((up m j k i : Nat) : Int)
def wantRow (m j i : Nat) : Value := .int .i64 ((if i = 0 then 0 else lv i m (j - m) : Nat) : Int)

theorem want_start (m : Nat) (w : World) : (w.alloc (.cells (madeCells #[.int .i64 0] (2 * m)) 3)).rowIs w.heap.size 3 (2 * m) (wantRow m m) :=
  (World.rowIs_made w (.int .i64 0) (2 * m) 3).congr fun i hi => by unfold wantRow; simp [lv]
theorem up_of_want {w : World} {b m j : Nat} (h : w.rowIs b 3 (2 * m) (wantRow m j)) : w.rowIs b 3 (2 * m) (upRow m j j) :=
  h.congr fun i hi => by unfold wantRow upRow; rw [up_start]
theorem want_of_up {w : World} {b m j : Nat} (h : w.rowIs b 3 (2 * m) (upRow m j 0)) (hj : m ≤ j) : w.rowIs b 3 (2 * m) (wantRow m (j + 1)) :=
  h.congr fun i hi => by unfold wantRow upRow; rw [up_end hj]
theorem up_set {w : World} {b m j k : Nat} (h : w.rowIs b 3 (2 * m) (upRow m j k)) (hk : 0 < k) (ha : anc k j = true) : (w.setCell ⟨b, k, none⟩ (.int .i64 (((up m j k k : Nat) : Int) + 1))).rowIs b 3 (2 * m) (upRow m j (k / 2)) :=
  (h.set k _).congr fun i hi => by
    unfold upRow
    rw [up_step hk ha]
    by_cases e : i = k
    · subst e; simp
    · simp [e]
theorem want_ints {w : World} {b m : Nat} (h : w.rowIs b 3 (2 * m) (wantRow m (2 * m))) : IntsAt w (some ⟨b, 0, none⟩) (2 * m) b 0 (fun i => ((szv m i : Nat) : Int)) :=
  ⟨fun _ => rfl, fun i hi => by
    rw [Nat.zero_add, h.cell hi]
    unfold wantRow szv
    rw [show 2 * m - m = m by omega]⟩
theorem size_ints {w : World} {b m : Nat} (h : w.rowIs b 3 (2 * m) (szRow m 0)) : IntsAt w (some ⟨b, 0, none⟩) (2 * m) b 0 (fun i => ((szv m i : Nat) : Int)) :=
  ⟨fun _ => rfl, fun i hi => by
    rw [Nat.zero_add, h.cell hi]
    unfold szRow
    by_cases e : i = 0
    · subst e; simp [szv]
    · rw [if_pos (by omega)]⟩

set_option maxRecDepth 100000 in
set_option maxHeartbeats 4000000 in
theorem law5 (A A2 : Option Addr) (n c b off n2 c2 b2 off2 : Nat) (ht : Bool) (K T : Nat → Int) (S S2 : Nat → ByteArray) (KL : Nat → Lit) (w : World)
    (hI : InAt w A n b off K T S) (hK : KeysAt w A2 n2 b2 off2 S2) (hnil : A2 = none → n2 = 0) (hKL : ∀ i, i < n → keyOf Try.prog 61 (keyVal (T i) (S i)) = some (KL i)) :
    Calls Try.prog 5 #[.slice A n c, .bool ht, .slice A2 n2 c2] w fun e w' => e = .returned (.bool true) ∧ Below w.heap.size w w' := by
  have hn := hI.most
  have hn2 := hK.most
  unfold maxLen at hn hn2
  have HI := hid hI
  have HK := hid hK
  have HN := hid hnil
  have HKL := hid hKL
  clear hI hK hnil hKL
  go_enter Try.func5, Try.ntmps5
  go_wp2_with fail
  refine (bytes17 A A2 n c b off n2 c2 b2 off2 ht K T S S2 _ HI.out HK.out).mono ?_
  rintro e w' ⟨⟨r, rfl⟩, rfl⟩
  cases r with
  | false =>
    go_wp2
    go_ret
    exact ⟨rfl, Below.refl _ _⟩
  | true =>
    by_cases h1 : n ≤ 65536
    · by_cases h2 : n2 ≤ 65536
      · by_cases h3 : 32 * n + 16 * n2 ≤ 1048576
        · have hd1 : decide ((65536 : Int) < (n : Int)) = false := decide_eq_false (by omega)
          have hd2 : decide ((65536 : Int) < (n2 : Int)) = false := decide_eq_false (by omega)
          have hd3 : decide ((1048576 : Int) < 32 * (n : Int) + 16 * (n2 : Int)) = false := decide_eq_false (by omega)
          go_wp2
          clear hd1 hd2 hd3
          go_loop [7, 8] (fun z i => ∃ (k : Nat) (t : Int), k ≤ n ∧ i = .int .i64 k ∧ z = .int .i64 t) (fun _ i => n - (intOf i).toNat)
          case atStart => exact ⟨0, _, Nat.zero_le _, rfl, rfl⟩
          case round =>
            obtain ⟨k, t, hk, rfl, rfl⟩ := hrel
            by_cases hlt : k < n
            · have hix := fun w => run_indexAt_any (P := Try.prog) 37 42 A n c b off 3 Try.underlying37 size42 HI.out.at0 k hlt w
              have hc := HI.out.item k hlt
              go_wp2
              · go_ret
                exact ⟨rfl, Below.refl _ _⟩
              · go_round
                case rel => exact ⟨k + 1, _, by omega, by go_num, rfl⟩
                case measure => simp [intOf]; omega
            · go_wp2
              go_loop [7, 9] (fun z i => ∃ (k : Nat) (t : Int), k ≤ n2 ∧ i = .int .i64 k ∧ z = .int .i64 t) (fun _ i => n2 - (intOf i).toNat)
              case atStart => exact ⟨0, _, Nat.zero_le _, rfl, rfl⟩
              case round =>
                obtain ⟨k2, t2, hk2, rfl, rfl⟩ := hrel
                by_cases hlt2 : k2 < n2
                · have hix := fun w => run_indexAt_any (P := Try.prog) 38 9 A2 n2 c2 b2 off2 1 Try.underlying38 size9 HK.out.at0 k2 hlt2 w
                  have hc := HK.out.item k2 hlt2
                  go_wp2
                  · go_ret
                    exact ⟨rfl, Below.refl _ _⟩
                  · go_round
                    case rel => exact ⟨k2 + 1, _, by omega, by go_num, rfl⟩
                    case measure => simp [intOf]; omega
                · have hmk := run_make_any (P := Try.prog) 43 46 (.agg #[.int .u8 0, .int .u64 0, .string ⟨#[]⟩]) 3 32 Try.underlying43 Try.info46 n (by omega) (by omega)
                  simp only [Value.cells] at hmk
                  go_wp2
                  go_loopw [11] (fun i wr => ∃ k : Nat, k ≤ n ∧ i = .int .i64 k ∧ wr.rowIs w.heap.size 46 (n * 3) (stepRow K T S k) ∧ Below w.heap.size w wr) (fun i _ => n - (intOf i).toNat)
                  case atStart => exact ⟨0, Nat.zero_le _, rfl, stepRow_start K T S w n, (Below.refl _ _).alloc (Nat.le_refl _) _⟩
                  case round =>
                    clear hmk
                    obtain ⟨k3, hk3, rfl, hrow, hb⟩ := hrel
                    have HR := hid hrow
                    have HB := hid hb
                    by_cases hlt3 : k3 < n
                    · have hbb := HI.out.low (by omega)
                      have hix := fun w => run_indexAt_any (P := Try.prog) 37 42 A n c b off 3 Try.underlying37 size42 HI.out.at0 k3 hlt3 w
                      have hc0 : wr.cell? ⟨b, off + k3 * 3, none⟩ = some (.int .u8 (K k3)) := (hb.cell hbb).trans (HI.out.kind k3 hlt3)
                      have hc1 : wr.cell? ⟨b, off + k3 * 3 + 1, none⟩ = some (.int .u64 (T k3)) := (hb.cell hbb).trans (HI.out.txn k3 hlt3)
                      have hc2 : wr.cell? ⟨b, off + k3 * 3 + 2, none⟩ = some (.string (S k3)) := (hb.cell hbb).trans (HI.out.item k3 hlt3)
                      have hr0 := hrow.cell (i := k3 * 3) (by omega)
                      have hr1 := hrow.cell (i := k3 * 3 + 1) (by omega)
                      have hr2 := hrow.cell (i := k3 * 3 + 2) (by omega)
                      have hf0 := hrow.frozen (k3 * 3)
                      have hf1 := hrow.frozen (k3 * 3 + 1)
                      have hf2 := hrow.frozen (k3 * 3 + 2)
                      clear hrow hb
                      go_wp2
                      go_region
                      all_goals go_wp2
                      all_goals go_roundw
                      case rel => exact ⟨k3 + 1, by omega, by go_num, (stepRow_step HR.out).drew, (((HB.out.setCell (Nat.le_refl _) _).setCell (Nat.le_refl _) _).setCell (Nat.le_refl _) _).drew⟩
                      case measure => simp [intOf]; omega
                    · obtain rfl : k3 = n := by omega
                      have HS : Hid (InAt wr (some ⟨w.heap.size, 0, none⟩) k3 w.heap.size 0 K T S) := steps_in hrow HI.out.len HI.out.most
                      clear hrow hb hlt3
                      go_wp2_with fail
                      refine (clone18 A2 n2 c2 b2 off2 S2 _ (HK.out.below HB.out HK.out.low (Nat.le_refl _)) HN.out (by omega)).mono ?_
                      rintro e w1 ⟨A3, b3, rfl, -, -, hb1⟩
                      have HB1 : Hid (Below w.heap.size w w1) := HB.out.trans (hb1.mono HB.out.size)
                      have HS1 := hid (HS.out.below hb1 (fun h => HS.out.low h) (Nat.le_refl _))
                      clear hb1 HS HR
                      go_wp2_with fail
                      refine (tree19 _ _ _ _).mono ?_
                      rintro e w2 ⟨tb, rfl, htb1, htb2, htc, hb2⟩
                      have HB2 : Hid (Below w.heap.size w w2) := HB1.out.trans (hb2.mono HB1.out.size)
                      have HS2 := hid (HS1.out.below hb2 (fun h => HS1.out.low h) (Nat.le_refl _))
                      have HT := hid htc
                      clear hb2 HS1 HB1 HB htc
                      cases ht with
                      | false =>
                        go_wp2_with fail
                        refine (table20_nil _ _ _ _ _ K T S KL w2 HS2.out (by omega) HKL.out).mono ?_
                        rintro e w3 ⟨rfl, hL⟩
                        have HL := hid hL
                        clear hL
                        go_wp2_with fail
                        refine (fields21 (w2.heap.size + 1 + 1 + 1 + 1) _ _ _ _ _ _ _ _ w3 (HL.out.cell 0 _ rfl) (HL.out.cell 1 _ rfl) (HL.out.cell 2 _ rfl) (HL.out.cell 3 _ rfl) (HL.out.cell 4 _ rfl) (HL.out.cell 5 _ rfl) (HL.out.cell 6 _ rfl) (HL.out.cell 7 _ rfl)).mono ?_
                        rintro e w4 ⟨rfl, m, hw4⟩
                        have HL4 : Hid (LT w2.heap.size w2 w4 (.pointer none) (.slice none 0 0) (.map none) k3 (Dm K KL k3)) := by rw [hw4]; exact HL.out.drewN m
                        have HS4 : Hid (InAt w4 (some ⟨w.heap.size, 0, none⟩) k3 w.heap.size 0 K T S) := HS2.out.below HL4.out.below (fun h => HS2.out.low h) (Nat.le_refl _)
                        have hb0 : w.heap.size < w2.heap.size ∨ k3 = 0 := by
                          by_cases h : 0 < k3
                          · exact Or.inl (HS2.out.low h)
                          · exact Or.inr (by omega)
                        clear hw4 HL HS2 HT htb1 htb2
                        have e52 := fun w => run_eql_map_nil (P := Try.prog) w 52 61 44 (some w2.heap.size) Try.underlying52
                        have e53 := fun w => run_eql_map_nil (P := Try.prog) w 53 9 93 (some (w2.heap.size + 1)) Try.underlying53
                        have e54 := fun w => run_eql_map_nil (P := Try.prog) w 54 40 38 (some (w2.heap.size + 1 + 1)) Try.underlying54
                        have e56 := fun w => run_eql_map_nil (P := Try.prog) w 56 61 3 (some (w2.heap.size + 1 + 1 + 1)) Try.underlying56
                        have l52 := run_len_empty Try.underlying52 HL4.out.m0
                        have l53 := run_len_empty Try.underlying53 HL4.out.m1
                        have l54 := run_len_empty Try.underlying54 HL4.out.m2
                        go_wp2
                        clear e52 e53 e54 e56 l52 l53 l54
                        go_loopw [22, 23] (fun f i wr => ∃ p : Nat, p ≤ k3 ∧ i = .int .i64 p ∧ f = .int .i64 ((cnt K KL k3 p : Nat) : Int) ∧ Below w4.heap.size w4 wr) (fun _ i _ => k3 - (intOf i).toNat)
                        case atStart => exact ⟨0, Nat.zero_le _, rfl, rfl, Below.refl _ _⟩
                        case round =>
                          obtain ⟨p, hp, rfl, rfl, hbw⟩ := hrel
                          have HBW := hid hbw
                          have hcl := cnt_le K KL k3 p
                          by_cases hpn : p < k3
                          · have hbb := HS4.out.low (by omega)
                            have hc0 : wr.cell? ⟨w.heap.size, p * 3, none⟩ = some (.int .u8 (K p)) := by have h := (hbw.cell hbb).trans (HS4.out.kind p hpn); simpa using h
                            have hc1 : wr.cell? ⟨w.heap.size, p * 3 + 1, none⟩ = some (.int .u64 (T p)) := by have h := (hbw.cell hbb).trans (HS4.out.txn p hpn); simpa using h
                            have hc2 : wr.cell? ⟨w.heap.size, p * 3 + 2, none⟩ = some (.string (S p)) := by have h := (hbw.cell hbb).trans (HS4.out.item p hpn); simpa using h
                            have hbs := hbw.size
                            have hlo : w.heap.size < wr.heap.size := by omega
                            have hlo1 : w.heap.size < wr.heap.size + 1 := by omega
                            by_cases h117 : K p = 117
                            · have hq : (K p != 117) = false := by simp [h117]
                              obtain ⟨q, hpq, hqn, eq, hKq, hTq, hSq, hlk⟩ := look_last (T := T) (S := S) HKL.out hpn h117 (((HL4.out.later hbw).alloc (.cells #[.int .u8 (K p), .int .u64 (T p), .string (S p)] 46)).alloc (.cells #[.int .u64 (T p), .string (S p)] 61)).own
                              have hd0 : wr.cell? ⟨w.heap.size, q * 3, none⟩ = some (.int .u8 117) := by have h := (hbw.cell hbb).trans (HS4.out.kind q hqn); rw [hKq] at h; simpa using h
                              have hd1 : wr.cell? ⟨w.heap.size, q * 3 + 1, none⟩ = some (.int .u64 (T p)) := by have h := (hbw.cell hbb).trans (HS4.out.txn q hqn); rw [hTq] at h; simpa using h
                              have hd2 : wr.cell? ⟨w.heap.size, q * 3 + 2, none⟩ = some (.string (S p)) := by have h := (hbw.cell hbb).trans (HS4.out.item q hqn); rw [hSq] at h; simpa using h
                              have HF : Hid (cnt K KL k3 (p + 1) = cnt K KL k3 p + (if q = p then 1 else 0)) := by
                                show cnt K KL k3 p + (if fin K KL k3 p = true then 1 else 0) = _
                                simp [fin, h117, ← eq]
                              clear hKq hTq hSq eq h117 hbw
                              by_cases hqp : q = p
                              · have hqb : ((q : Int) == (p : Int)) = true := by simp [hqp]
                                have HE := hid hqp
                                clear hqp
                                go_wp2_with fail
                                refine (key22 _ _ _).mono ?_
                                rintro e w5 ⟨rfl, rfl⟩
                                go_wp2
                                go_roundw
                                case rel => exact ⟨p + 1, by omega, by go_num, by rw [HF.out, if_pos HE.out]; go_num, ((HBW.out.alloc (by omega) _).alloc (by simp; omega) _).alloc (by simp; omega) _⟩
                                case measure => simp [intOf]; omega
                              · have hqb : ((q : Int) == (p : Int)) = false := by rw [beq_eq_false_iff_ne]; omega
                                have HE := hid hqp
                                clear hqp
                                go_wp2_with fail
                                refine (key22 _ _ _).mono ?_
                                rintro e w5 ⟨rfl, rfl⟩
                                go_wp2
                                go_roundw
                                case rel => exact ⟨p + 1, by omega, by go_num, by rw [HF.out, if_neg HE.out]; go_num, ((HBW.out.alloc (by omega) _).alloc (by simp; omega) _).alloc (by simp; omega) _⟩
                                case measure => simp [intOf]; omega
                            · have hq : (K p != 117) = true := by simp [h117]
                              have HF : Hid (cnt K KL k3 (p + 1) = cnt K KL k3 p) := by
                                show cnt K KL k3 p + (if fin K KL k3 p = true then 1 else 0) = _
                                simp [fin, h117]
                              clear h117 hbw
                              go_wp2
                              go_roundw
                              case rel => exact ⟨p + 1, by omega, by go_num, by rw [HF.out], HBW.out.alloc (by omega) _⟩
                              case measure => simp [intOf]; omega
                          · obtain rfl : p = k3 := by omega
                            have hkey : ∀ i, i < p → WideAt.IsKeyLit (KL i) := fun i hi => law61.key (HKL.out i hi)
                            have hlen := fun ty => (HL4.out.later hbw).own.len Try.underlying56 ty
                            rw [size_Dm hkey p (Nat.le_refl _)] at hlen
                            have HE : Hid (Below w.heap.size w wr) := (HB2.out.trans (HL4.out.below.mono HB2.out.size)).trans (hbw.mono (Nat.le_trans HB2.out.size HL4.out.below.size))
                            have e22 := fun w => Lib.run_eql_slice_nil (P := Try.prog) w 22 3 none 0 0 0 0 Try.underlying22
                            have e55 := fun w => run_eql_map_nil (P := Try.prog) w 55 _ _ none Try.underlying55
                            clear hkey hbw HB2 HL4 HS4 HBW
                            go_wp2
                            go_ret
                            exact ⟨rfl, HE.out⟩
                      | true =>
                        go_wp2_with fail
                        refine (table20_tree _ _ _ _ _ K T S KL A3 n2 n2 tb w2 HS2.out (by omega) (by omega) HKL.out htb2 HT.out).mono ?_
                        rintro e w3 ⟨rfl, hL⟩
                        obtain ⟨Z, Q, hL, hZ, hQ⟩ := hL
                        have HL := hid hL
                        clear hL
                        go_wp2_with fail
                        refine (fields21 (w2.heap.size + 1 + 1 + 1 + 1) _ _ _ _ _ _ _ _ w3 (HL.out.cell 0 _ rfl) (HL.out.cell 1 _ rfl) (HL.out.cell 2 _ rfl) (HL.out.cell 3 _ rfl) (HL.out.cell 4 _ rfl) (HL.out.cell 5 _ rfl) (HL.out.cell 6 _ rfl) (HL.out.cell 7 _ rfl)).mono ?_
                        rintro e w4 ⟨rfl, m, hw4⟩
                        have HL4 : Hid (LT w2.heap.size w2 w4 (.pointer (some ⟨tb, 0, none⟩)) (.slice (some ⟨Z, 0, none⟩) (2 * n2) (2 * n2)) (.map (some Q)) k3 (Dm K KL k3)) := by rw [hw4]; exact HL.out.drewN m
                        have HS4 : Hid (InAt w4 (some ⟨w.heap.size, 0, none⟩) k3 w.heap.size 0 K T S) := HS2.out.below HL4.out.below (fun h => HS2.out.low h) (Nat.le_refl _)
                        have HZ : Hid (w4.rowIs Z 3 (2 * n2) (szRow n2 0)) := by rw [hw4]; exact hZ
                        have HQ : Hid (w4.heap[Q]? = some (.map #[] 0)) := by rw [hw4]; exact hQ
                        clear hZ hQ
                        have hb0 : w.heap.size < w2.heap.size ∨ k3 = 0 := by
                          by_cases h : 0 < k3
                          · exact Or.inl (HS2.out.low h)
                          · exact Or.inr (by omega)
                        clear hw4 HL HS2 HT htb1 htb2
                        have e52 := fun w => run_eql_map_nil (P := Try.prog) w 52 61 44 (some w2.heap.size) Try.underlying52
                        have e53 := fun w => run_eql_map_nil (P := Try.prog) w 53 9 93 (some (w2.heap.size + 1)) Try.underlying53
                        have e54 := fun w => run_eql_map_nil (P := Try.prog) w 54 40 38 (some (w2.heap.size + 1 + 1)) Try.underlying54
                        have e56 := fun w => run_eql_map_nil (P := Try.prog) w 56 61 3 (some (w2.heap.size + 1 + 1 + 1)) Try.underlying56
                        have l52 := run_len_empty Try.underlying52 HL4.out.m0
                        have l53 := run_len_empty Try.underlying53 HL4.out.m1
                        have l54 := run_len_empty Try.underlying54 HL4.out.m2
                        obtain ⟨j68, hj68⟩ := info68
                        have eptr := fun w => run_neq_ptr_same (P := Try.prog) w ⟨tb, 0, none⟩ Try.underlying48 hj68
                        go_wp2
                        clear e52 e53 e54 e56 l52 l53 l54 eptr hj68
                        go_loopw [22, 23] (fun f i wr => ∃ p : Nat, p ≤ k3 ∧ i = .int .i64 p ∧ f = .int .i64 ((cnt K KL k3 p : Nat) : Int) ∧ Below w4.heap.size w4 wr) (fun _ i _ => k3 - (intOf i).toNat)
                        case atStart => exact ⟨0, Nat.zero_le _, rfl, rfl, Below.refl _ _⟩
                        case round =>
                          obtain ⟨p, hp, rfl, rfl, hbw⟩ := hrel
                          have HBW := hid hbw
                          have hcl := cnt_le K KL k3 p
                          by_cases hpn : p < k3
                          · have hbb := HS4.out.low (by omega)
                            have hc0 : wr.cell? ⟨w.heap.size, p * 3, none⟩ = some (.int .u8 (K p)) := by have h := (hbw.cell hbb).trans (HS4.out.kind p hpn); simpa using h
                            have hc1 : wr.cell? ⟨w.heap.size, p * 3 + 1, none⟩ = some (.int .u64 (T p)) := by have h := (hbw.cell hbb).trans (HS4.out.txn p hpn); simpa using h
                            have hc2 : wr.cell? ⟨w.heap.size, p * 3 + 2, none⟩ = some (.string (S p)) := by have h := (hbw.cell hbb).trans (HS4.out.item p hpn); simpa using h
                            have hbs := hbw.size
                            have hlo : w.heap.size < wr.heap.size := by omega
                            have hlo1 : w.heap.size < wr.heap.size + 1 := by omega
                            by_cases h117 : K p = 117
                            · have hq : (K p != 117) = false := by simp [h117]
                              obtain ⟨q, hpq, hqn, eq, hKq, hTq, hSq, hlk⟩ := look_last (T := T) (S := S) HKL.out hpn h117 (((HL4.out.later hbw).alloc (.cells #[.int .u8 (K p), .int .u64 (T p), .string (S p)] 46)).alloc (.cells #[.int .u64 (T p), .string (S p)] 61)).own
                              have hd0 : wr.cell? ⟨w.heap.size, q * 3, none⟩ = some (.int .u8 117) := by have h := (hbw.cell hbb).trans (HS4.out.kind q hqn); rw [hKq] at h; simpa using h
                              have hd1 : wr.cell? ⟨w.heap.size, q * 3 + 1, none⟩ = some (.int .u64 (T p)) := by have h := (hbw.cell hbb).trans (HS4.out.txn q hqn); rw [hTq] at h; simpa using h
                              have hd2 : wr.cell? ⟨w.heap.size, q * 3 + 2, none⟩ = some (.string (S p)) := by have h := (hbw.cell hbb).trans (HS4.out.item q hqn); rw [hSq] at h; simpa using h
                              have HF : Hid (cnt K KL k3 (p + 1) = cnt K KL k3 p + (if q = p then 1 else 0)) := by
                                show cnt K KL k3 p + (if fin K KL k3 p = true then 1 else 0) = _
                                simp [fin, h117, ← eq]
                              clear hKq hTq hSq eq h117 hbw
                              by_cases hqp : q = p
                              · have hqb : ((q : Int) == (p : Int)) = true := by simp [hqp]
                                have HE := hid hqp
                                clear hqp
                                go_wp2_with fail
                                refine (key22 _ _ _).mono ?_
                                rintro e w5 ⟨rfl, rfl⟩
                                go_wp2
                                go_roundw
                                case rel => exact ⟨p + 1, by omega, by go_num, by rw [HF.out, if_pos HE.out]; go_num, ((HBW.out.alloc (by omega) _).alloc (by simp; omega) _).alloc (by simp; omega) _⟩
                                case measure => simp [intOf]; omega
                              · have hqb : ((q : Int) == (p : Int)) = false := by rw [beq_eq_false_iff_ne]; omega
                                have HE := hid hqp
                                clear hqp
                                go_wp2_with fail
                                refine (key22 _ _ _).mono ?_
                                rintro e w5 ⟨rfl, rfl⟩
                                go_wp2
                                go_roundw
                                case rel => exact ⟨p + 1, by omega, by go_num, by rw [HF.out, if_neg HE.out]; go_num, ((HBW.out.alloc (by omega) _).alloc (by simp; omega) _).alloc (by simp; omega) _⟩
                                case measure => simp [intOf]; omega
                            · have hq : (K p != 117) = true := by simp [h117]
                              have HF : Hid (cnt K KL k3 (p + 1) = cnt K KL k3 p) := by
                                show cnt K KL k3 p + (if fin K KL k3 p = true then 1 else 0) = _
                                simp [fin, h117]
                              clear h117 hbw
                              go_wp2
                              go_roundw
                              case rel => exact ⟨p + 1, by omega, by go_num, by rw [HF.out], HBW.out.alloc (by omega) _⟩
                              case measure => simp [intOf]; omega
                          · obtain rfl : p = k3 := by omega
                            have hkey : ∀ i, i < p → WideAt.IsKeyLit (KL i) := fun i hi => law61.key (HKL.out i hi)
                            have hlen := fun ty => (HL4.out.later hbw).own.len Try.underlying56 ty
                            rw [size_Dm hkey p (Nat.le_refl _)] at hlen
                            have HE : Hid (Below w.heap.size w wr) := (HB2.out.trans (HL4.out.below.mono HB2.out.size)).trans (hbw.mono (Nat.le_trans HB2.out.size HL4.out.below.size))
                            have e22 := fun w => Lib.run_eql_slice_nil (P := Try.prog) w 22 3 (some ⟨Z, 0, none⟩) (2 * n2) (2 * n2) 0 0 Try.underlying22
                            have e55 := fun w => run_eql_map_nil (P := Try.prog) w 55 _ _ (some Q) Try.underlying55
                            have l55 := run_len_empty Try.underlying55 ((hbw.block Q (Array.getElem?_eq_some_iff.1 HQ.out).1).trans HQ.out)
                            have HZ2 : Hid (wr.rowIs Z 3 (2 * n2) (szRow n2 0)) := HZ.out.of_block (hbw.block Z HZ.out.lt)
                            have hmk := run_make_row' (P := Try.prog) 22 3 (.int .i64 0) 8 Try.underlying22 Try.info3 rfl .i64 .i64 (2 * n2) (by omega) (by omega)
                            rw [show ((2 * n2 : Nat) : Int) = 2 * (n2 : Int) from by omega] at hmk
                            clear hkey hbw HB2 HL4 HS4 HBW HZ HQ
                            go_wp2
                            clear hlen e22 e55 l55 hmk
                            obtain ⟨wo, hwo⟩ : ∃ wo : World, wo = wr := ⟨_, rfl⟩
                            rw [← hwo] at HE HZ2 ⊢
                            clear hwo wr
                            go_loopw [30] (fun i wr => ∃ j : Nat, n2 ≤ j ∧ j ≤ 2 * n2 ∧ i = .int .i64 j ∧ wr.rowIs wo.heap.size 3 (2 * n2) (wantRow n2 j) ∧ Below wo.heap.size wo wr) (fun i _ => 2 * n2 - (intOf i).toNat)
                            case atStart => exact ⟨n2, Nat.le_refl _, by omega, rfl, want_start n2 wo, (Below.refl _ _).alloc (Nat.le_refl _) _⟩
                            case round =>
                              obtain ⟨j, hj1, hj2, rfl, hrow, hbj⟩ := hrel
                              have HR := hid hrow
                              have HBJ := hid hbj
                              clear hrow hbj
                              by_cases hjn : j < 2 * n2
                              · go_wp2
                                obtain ⟨wj, hwj⟩ : ∃ wj : World, wj = wr := ⟨_, rfl⟩
                                rw [← hwj] at HR HBJ ⊢
                                clear hwj wr
                                go_loopw [31] (fun i wr => ∃ x : Nat, (x = 0 ∨ anc x j = true) ∧ x ≤ j ∧ i = .int .i64 x ∧ wr.rowIs wo.heap.size 3 (2 * n2) (upRow n2 j x) ∧ Below wo.heap.size wo wr) (fun i _ => (intOf i).toNat)
                                case atStart => exact ⟨j, Or.inr (anc_self (by omega)), Nat.le_refl _, rfl, up_of_want HR.out, HBJ.out⟩
                                case round =>
                                  obtain ⟨x, hx, hxj, rfl, hrow, hbx⟩ := hrel
                                  have HR2 := hid hrow
                                  have HBX := hid hbx
                                  clear hbx
                                  by_cases hx0 : 0 < x
                                  · have HA : Hid (anc x j = true) := hx.resolve_left (by omega)
                                    have hcx := hrow.cell (i := x) (by omega)
                                    have hfx := hrow.frozen x
                                    have hub := up_le n2 j x x
                                    unfold upRow at hcx
                                    clear hx hrow
                                    go_wp2
                                    go_roundw
                                    case rel =>
                                      refine ⟨x / 2, ?_, by omega, by go_num, up_set HR2.out hx0 HA.out, HBX.out.setCell (Nat.le_refl _) _⟩
                                      by_cases h2 : x / 2 = 0
                                      · exact Or.inl h2
                                      · exact Or.inr (anc_half hx0 (by omega) HA.out)
                                    case measure => simp [intOf]; omega
                                  · obtain rfl : x = 0 := by omega
                                    clear hx hrow
                                    go_wp2
                                    go_roundw
                                    case rel => exact ⟨j + 1, by omega, by omega, by go_num, want_of_up HR2.out hj1, HBX.out⟩
                                    case measure => simp [intOf]; omega
                              · obtain rfl : j = 2 * n2 := by omega
                                have HZ3 : Hid (wr.rowIs Z 3 (2 * n2) (szRow n2 0)) := HZ2.out.of_block (HBJ.out.block Z HZ2.out.lt)
                                go_wp2_with fail
                                refine (equal16 _ _ _ _ _ Z 0 wo.heap.size 0 (fun i => ((szv n2 i : Nat) : Int)) wr (size_ints HZ3.out) (want_ints HR.out) rfl (by omega)).mono ?_
                                rintro e w6 ⟨rfl, m6, rfl⟩
                                have HF : Hid (Below w.heap.size w (wr.drewN m6)) := by
                                  have h := HE.out.trans (HBJ.out.mono HE.out.size)
                                  exact ⟨h.os, h.tape, h.output, h.size, h.block⟩
                                go_wp2
                                go_ret
                                exact ⟨rfl, HF.out⟩
        · go_wp2
          go_ret
          exact ⟨rfl, Below.refl _ _⟩
      · go_wp2
        go_ret
        exact ⟨rfl, Below.refl _ _⟩
    · go_wp2
      go_ret
      exact ⟨rfl, Below.refl _ _⟩
end Go.Proofs.Qxb6601772a
