import Derived.Test.Qxb6601772aTree
namespace Go.Proofs.Qxb6601772a
open Go.ChangeShapes Go.WideShapes Go.ChangeAt Go.RowKit Go.Maps

/-- The lock table as it is being built: blocks B .. B+3 are its maps, block B+4 itself. -/
structure LT (B : Nat) (w wr : World) (tree sz sp : Value) (n : Nat) (D : DataW Unit) : Prop where
  m0 : wr.heap[B]? = some (.map #[] 0)
  m1 : wr.heap[B + 1]? = some (.map #[] 0)
  m2 : wr.heap[B + 1 + 1]? = some (.map #[] 0)
  own : wr.ownsMap Try.prog 61 (plainElem Try.prog 3) (B + 1 + 1 + 1) n D
  box : wr.heap[B + 1 + 1 + 1 + 1]? = some (.cells #[.map (some B), .map (some (B + 1)), .map (some (B + 1 + 1)), tree, sz, sp, .slice none 0 0, .map (some (B + 1 + 1 + 1))] 70 (0, 0))
  below : Below B w wr

theorem LT.lt {B : Nat} {w wr : World} {tree sz sp : Value} {n : Nat} {D : DataW Unit} (h : LT B w wr tree sz sp n D) : B + 1 + 1 + 1 + 1 < wr.heap.size :=
  (Array.getElem?_eq_some_iff.1 h.box).1

theorem LT.cell {B : Nat} {w wr : World} {tree sz sp : Value} {n : Nat} {D : DataW Unit} (h : LT B w wr tree sz sp n D) (i : Nat) (v : Value)
    (hv : #[Value.map (some B), .map (some (B + 1)), .map (some (B + 1 + 1)), tree, sz, sp, .slice none 0 0, .map (some (B + 1 + 1 + 1))][i]? = some v) : wr.cell? ⟨B + 1 + 1 + 1 + 1, i, none⟩ = some v := by
  simp only [World.cell?, h.box]
  exact hv

theorem LT.frozen {B : Nat} {w wr : World} {tree sz sp : Value} {n : Nat} {D : DataW Unit} (h : LT B w wr tree sz sp n D) (i : Nat) : wr.frozen? ⟨B + 1 + 1 + 1 + 1, i, none⟩ = false := by
  simp [World.frozen?, h.box]

theorem LT.alloc {B : Nat} {w wr : World} {tree sz sp : Value} {n : Nat} {D : DataW Unit} (h : LT B w wr tree sz sp n D) (o : Obj) : LT B w (wr.alloc o) tree sz sp n D where
  m0 := by rw [Below.heap_alloc _ _ _ (by have := h.lt; omega)]; exact h.m0
  m1 := by rw [Below.heap_alloc _ _ _ (by have := h.lt; omega)]; exact h.m1
  m2 := by rw [Below.heap_alloc _ _ _ (by have := h.lt; omega)]; exact h.m2
  own := h.own.alloc o
  box := by rw [Below.heap_alloc _ _ _ h.lt]; exact h.box
  below := h.below.alloc (by have := h.lt; omega) o

theorem LT.drew {B : Nat} {w wr : World} {tree sz sp : Value} {n : Nat} {D : DataW Unit} (h : LT B w wr tree sz sp n D) : LT B w wr.drew tree sz sp n D :=
  ⟨h.m0, h.m1, h.m2, h.own.drew, h.box, h.below.drew⟩

theorem LT.grown {B : Nat} {w wr w' : World} {tree sz sp : Value} {n n' : Nat} {D D' : DataW Unit} (h : LT B w wr tree sz sp n D) (hg : wr.grownBy w' (some (B + 1 + 1 + 1))) (ho : w'.ownsMap Try.prog 61 (plainElem Try.prog 3) (B + 1 + 1 + 1) n' D') : LT B w w' tree sz sp n' D' where
  m0 := by rw [hg.block _ (by have := h.lt; omega) (by simp; try omega)]; exact h.m0
  m1 := by rw [hg.block _ (by have := h.lt; omega) (by simp; try omega)]; exact h.m1
  m2 := by rw [hg.block _ (by have := h.lt; omega) (by simp; try omega)]; exact h.m2
  own := ho
  box := by rw [hg.block _ h.lt (by simp)]; exact h.box
  below := h.below.grown hg (by have := h.lt; omega) (fun k hk => by cases hk; omega)

theorem LT.mono {B : Nat} {w wr : World} {tree sz sp : Value} {n n' : Nat} {D : DataW Unit} (h : LT B w wr tree sz sp n D) (hn : n ≤ n') : LT B w wr tree sz sp n' D :=
  ⟨h.m0, h.m1, h.m2, h.own.mono hn, h.box, h.below⟩

theorem LT.start (w : World) (tree : Value) : LT w.heap.size w (((((w.alloc (.map #[] 0)).alloc (.map #[] 0)).alloc (.map #[] 0)).alloc (.map #[] 0)).alloc
    (.cells #[.map (some w.heap.size), .map (some (w.heap.size + 1)), .map (some (w.heap.size + 1 + 1)), tree, .slice none 0 0, .map none, .slice none 0 0, .map (some (w.heap.size + 1 + 1 + 1))] 70)) tree (.slice none 0 0) (.map none) 0 (.map []) where
  m0 := by
    show (((((w.heap.push _).push _).push _).push _).push _)[w.heap.size]? = _
    simp only [Array.getElem?_push, Array.size_push]
    rw [if_neg (by omega), if_neg (by omega), if_neg (by omega), if_neg (by omega), if_pos trivial]
  m1 := by
    show (((((w.heap.push _).push _).push _).push _).push _)[w.heap.size + 1]? = _
    simp only [Array.getElem?_push, Array.size_push]
    rw [if_neg (by omega), if_neg (by omega), if_neg (by omega), if_pos trivial]
  m2 := by
    show (((((w.heap.push _).push _).push _).push _).push _)[w.heap.size + 1 + 1]? = _
    simp only [Array.getElem?_push, Array.size_push]
    rw [if_neg (by omega), if_neg (by omega), if_pos trivial]
  own := by
    have h := World.ownsMap_made (((w.alloc (.map #[] 0)).alloc (.map #[] 0)).alloc (.map #[] 0)) Try.prog 61 (plainElem (H := Unit) Try.prog 3)
    have e : (((w.alloc (.map #[] 0)).alloc (.map #[] 0)).alloc (.map #[] 0)).heap.size = w.heap.size + 1 + 1 + 1 := by simp
    rw [e] at h
    exact h.alloc _
  box := by
    show (((((w.heap.push _).push _).push _).push _).push _)[w.heap.size + 1 + 1 + 1 + 1]? = _
    simp only [Array.getElem?_push, Array.size_push]
    rw [if_pos trivial]
  below := (((((Below.refl _ w).alloc (Nat.le_refl _) _).alloc (by simp) _).alloc (by simp; omega) _).alloc (by simp; omega) _).alloc (by simp; omega) _

set_option maxHeartbeats 800000 in
theorem table24_nil (A : Option Addr) (n c b off : Nat) (K T : Nat → Int) (S : Nat → ByteArray) (KL : Nat → Lit) (w : World) (hI : InAt w A n b off K T S) (hn : n ≤ 1048576)
    (hK : ∀ i, i < n → keyOf Try.prog 61 (keyVal (T i) (S i)) = some (KL i)) :
    Calls Try.prog 24 #[.slice A n c, .pointer none] w fun e w' => e = .returned (.pointer (some ⟨w.heap.size + 1 + 1 + 1 + 1, 0, none⟩)) ∧ LT w.heap.size w w' (.pointer none) (.slice none 0 0) (.map none) n (Dm K KL n) := by
  have hmm := @run_makeMap Try.prog
  have HI := hid hI
  have HK := hid hK
  clear hI hK
  go_enter Try.func24, Try.ntmps24
  go_wp2
  clear hmm
  go_loopw [19] (fun i wr => ∃ k : Nat, k ≤ n ∧ i = .int .i64 k ∧ LT w.heap.size w wr (.pointer none) (.slice none 0 0) (.map none) k (Dm K KL k)) (fun i _ => n - (intOf i).toNat)
  case atStart => exact ⟨0, Nat.zero_le _, rfl, LT.start w (.pointer none)⟩
  case round =>
    obtain ⟨k, hk, rfl, hL⟩ := hrel
    have HL := hid hL
    by_cases hlt : k < n
    · have hbb := HI.out.low (by omega)
      have hix := fun w => run_indexAt_any (P := Try.prog) 43 46 A n c b off 3 Try.underlying43 size46 HI.out.at0 k hlt w
      have hc0 : wr.cell? ⟨b, off + k * 3, none⟩ = some (.int .u8 (K k)) := (hL.below.cell hbb).trans (HI.out.kind k hlt)
      have hc1 : wr.cell? ⟨b, off + k * 3 + 1, none⟩ = some (.int .u64 (T k)) := (hL.below.cell hbb).trans (HI.out.txn k hlt)
      have hc2 : wr.cell? ⟨b, off + k * 3 + 2, none⟩ = some (.string (S k)) := (hL.below.cell hbb).trans (HI.out.item k hlt)
      have hc7 := hL.cell 7 (.map (some (w.heap.size + 1 + 1 + 1))) rfl
      have hsz := hL.lt
      clear hL
      by_cases h117 : K k = 117
      · have hq : (K k == 117) = true := by simp [h117]
        have HD : Hid (Dm K KL (k + 1) = (Dm K KL k).put (KL k) (.lit (.int .i64 (k : Int)))) := by simp [Hid, Dm, h117]
        clear h117
        obtain ⟨w1, hrun, hown1, hgrow1⟩ := ((HL.out.alloc (.cells #[.int .u8 (K k), .int .u64 (T k), .string (S k)] 46)).drew).own.update law61 Try.underlying56 (by unfold maxLen; omega) (HK.out k hlt) (plainElem_int Try.underlying3 (WalkArith.wf_i64 (by omega) : (Lit.int .i64 (k : Int)).wf = true))
        unfold keyVal at hrun
        have HG := hid hgrow1
        have HO := hid hown1
        clear hown1 hgrow1
        go_wp2
        go_region
        all_goals go_wp2
        all_goals go_roundw
        case rel => exact ⟨k + 1, by omega, by go_num, by rw [HD.out]; exact ((HL.out.alloc _).drew).grown HG.out HO.out⟩
        case measure => simp [intOf]; omega
      · have hq : (K k == 117) = false := by simp [h117]
        have HD : Hid (Dm K KL (k + 1) = Dm K KL k) := by simp [Hid, Dm, h117]
        clear h117
        go_wp2
        go_roundw
        case rel => exact ⟨k + 1, by omega, by go_num, by rw [HD.out]; exact (HL.out.alloc _).mono (by omega)⟩
        case measure => simp [intOf]; omega
    · obtain rfl : k = n := by omega
      have hc3 := hL.cell 3 (.pointer none) rfl
      clear hL
      go_wp2
      go_ret
      exact ⟨rfl, HL.out⟩
end Go.Proofs.Qxb6601772a
