import Derived.Test.Qxb6601799aOpen
import Derived.Test.Qxb6601799aZlink
import Derived.Test.Qxb6601799aReach
import Derived.Test.Qxb6601799aKeep
namespace Go.Proofs.Qxb6601799a
open Go.ChangeShapes Go.WideShapes Go.ChangeAt Go.RowKit

set_option maxRecDepth 100000 in
set_option maxHeartbeats 1600000 in
theorem minus_contract (n : Nat) (hn : n ≤ 65536) (w : World) :
    Calls Try.prog 8 #[.int .i64 n] w fun e w' => e = .returned (.slice (some ⟨w.heap.size, 0, none⟩) n n) ∧ w.grownBy w' none ∧ w'.heap.size = w.heap.size + 1 ∧ w'.rowIs w.heap.size 3 n (fun _ => .int .i64 (-1)) := by
  have hmk := run_make_row' (P := Try.prog) 30 3 (.int .i64 0) 8 Try.underlying30 Try.info3 rfl .i64 .i64 n (by omega) (by omega)
  go_enter Try.func8, Try.ntmps8
  go_wp2
  have hmade := hid (World.rowIs_made w (.int .i64 0) n 3)
  clear hmk
  go_loopw [4] (fun i wr => ∃ (k : Nat) (f : Nat → Value), k ≤ n ∧ i = .int .i64 k ∧ w.grownBy wr none ∧ wr.heap.size = w.heap.size + 1 ∧ wr.rowIs w.heap.size 3 n f ∧ ∀ j, j < k → f j = .int .i64 (-1)) (fun i _ => n - (intOf i).toNat)
  case atStart => exact ⟨0, _, Nat.zero_le _, rfl, World.grownBy_alloc _ _ _, by simp, hmade.out, fun j hj => by omega⟩
  case round =>
    obtain ⟨k, f, hk, rfl, hg, hsz, hrow, hf⟩ := hrel
    have HG := hid hg
    have HR := hid hrow
    have HF := hid hf
    clear hg hrow hf hmade
    by_cases hlt : k < n
    · have hc := HR.out.cell hlt
      have hfz := HR.out.frozen k
      go_wp2
      go_roundw
      case rel =>
        refine ⟨k + 1, fun j => if j = k then .int .i64 (-1) else f j, by omega, by go_num, grown_set HG.out (.inr (Nat.le_refl _)) _, by simpa using hsz, HR.out.set k _, fun j hj => ?_⟩
        simp only; split
        · rfl
        · exact HF.out j (by omega)
      case measure => simp [intOf]; omega
    · have hke : n = k := by omega
      subst hke
      go_wp2
      go_ret
      exact ⟨rfl, HG.out, hsz, HR.out.congr fun i hi => HF.out i hi⟩

section
variable {B : Nat} {w0 w w' : World} {GB wb kb n : Nat} {V : Nat → Value} {RV : Value} {lw : Int} {rd : List Int} {out : Nat → List (Int × Int)}

theorem LM.grown0 (h : LM B w0 w GB wb kb n V RV lw rd out) (hg : w.grownBy w' none) : LM B w0 w' GB wb kb n V RV lw rd out := by
  obtain ⟨gc, hgb⟩ := h.gbox
  refine ⟨h.hGB, h.hkb, ?_, ?_, ?_, ?_, h.apart, ?_, ?_⟩
  · rw [hg.block wb h.wlt (by simp)]; exact h.wbox
  · rw [hg.block kb h.klt (by simp)]; exact h.kbox
  · exact h.graph.of_block (hg.block GB h.glt (by simp))
  · intro u hu
    refine (h.own u hu).kept hg ?_
    cases hb : (V u).ownBlock with
    | none => exact .inl rfl
    | some k => exact .inr (by simp)
  · refine h.rown.kept hg ?_
    cases hb : RV.ownBlock with
    | none => exact .inl rfl
    | some k => exact .inr (by simp)
  · exact h.below.grown hg (by have := h.hGB; have := h.glt; omega) (fun k e => by cases e)

theorem LMS.grown0 {s : St} (h : LMS B w0 w GB wb kb n s) (hg : w.grownBy w' none) : LMS B w0 w' GB wb kb n s := by
  obtain ⟨V, RV, h⟩ := h
  exact ⟨V, RV, h.grown0 hg⟩

theorem Kept.row (h : Kept w w') {b n : Nat} {f : Nat → Value} (hr : w.rowIs b 3 n f) : w'.rowIs b 3 n f := by
  obtain ⟨c, hb, h1, h2⟩ := hr
  exact ⟨c, h b c 3 _ (.inl rfl) hb, h1, h2⟩

theorem LM.setRow3 (h : LM B w0 w GB wb kb n V RV lw rd out) {b m : Nat} {f : Nat → Value} (hr : w.rowIs b 3 m f) (hB : B ≤ b) (i : Nat) (v : Value) : LM B w0 (w.setCell ⟨b, i, none⟩ v) GB wb kb n V RV lw rd out := by
  obtain ⟨gc, hgb⟩ := h.gbox
  obtain ⟨c, hc, _, _⟩ := hr
  have hset : ∀ k, k ≠ b → (w.setCell ⟨b, i, none⟩ v).heap[k]? = w.heap[k]? := fun k hk => Below.heap_setCell w _ v k hk
  refine ⟨h.hGB, h.hkb, ?_, ?_, ?_, ?_, h.apart, ?_, h.below.setCell hB v⟩
  · rw [hset wb (h.ne_of_type h.wbox hc (by decide))]; exact h.wbox
  · rw [hset kb (h.ne_of_type h.kbox hc (by decide))]; exact h.kbox
  · exact h.graph.setOther (h.ne_of_type hgb hc (by decide)) v
  · intro u hu
    refine ownsRow_setCell_other (h.own u hu) (fun e => ?_) v
    obtain ⟨c', hc'⟩ := h.ebox hu e
    exact h.ne_of_type hc' hc (by decide) rfl
  · refine ownsRow_setCell_other h.rown (fun e => ?_) v
    obtain ⟨c', hc'⟩ := h.rbox e
    exact h.ne_of_type hc' hc (by decide) rfl
end

theorem LMS.low {B : Nat} {w0 w : World} {GB wb kb n : Nat} {s : St} (h : LMS B w0 w GB wb kb n s) : Below B w0 w := by
  obtain ⟨V, RV, h⟩ := h
  exact h.below

/-- What each round of the script's loop leaves: the graph, and the first and last places. -/
structure L3 (w wr : World) (n : Nat) (T : Nat → Int) (W : Nat → Bool) (s : St) (a1 a2 a3 a4 : Nat → Int) (d : Nat) : Prop where
  lms : LMS w.heap.size w wr w.heap.size (w.heap.size + 1) (w.heap.size + 2) n s
  hd : w.heap.size ≤ d
  fw : wr.rowIs d 3 n (fun u => .int .i64 (a1 u))
  la : wr.rowIs (d + 1) 3 n (fun u => .int .i64 (a2 u))
  fr : wr.rowIs (d + 1 + 1) 3 n (fun u => .int .i64 (a3 u))
  lr : wr.rowIs (d + 1 + 1 + 1) 3 n (fun u => .int .i64 (a4 u))

section
variable {w wr : World} {n : Nat} {T : Nat → Int} {W : Nat → Bool} {s : St} {a1 a2 a3 a4 : Nat → Int} {d : Nat}

theorem L3.kept (h : L3 w wr n T W s a1 a2 a3 a4 d) {w' : World} {s' : St} (hl : LMS w.heap.size w w' w.heap.size (w.heap.size + 1) (w.heap.size + 2) n s') (hk : Kept wr w') : L3 w w' n T W s' a1 a2 a3 a4 d :=
  ⟨hl, h.hd, hk.row h.fw, hk.row h.la, hk.row h.fr, hk.row h.lr⟩

theorem L3.drewN (h : L3 w wr n T W s a1 a2 a3 a4 d) (m : Nat) : L3 w (wr.drewN m) n T W s a1 a2 a3 a4 d := by
  obtain ⟨V, RV, hL⟩ := h.lms
  exact ⟨⟨V, RV, hL.drewN m⟩, h.hd, h.fw, h.la, h.fr, h.lr⟩

theorem L3.set1 (h : L3 w wr n T W s a1 a2 a3 a4 d) (u : Nat) (x : Int) : L3 w (wr.setCell ⟨d, u, none⟩ (.int .i64 x)) n T W s (fun v => if v = u then x else a1 v) a2 a3 a4 d := by
  obtain ⟨V, RV, hL⟩ := h.lms
  have hd := h.hd
  refine ⟨⟨V, RV, hL.setRow3 h.fw (by omega) u _⟩, h.hd, (h.fw.set u _).congr fun i hi => ?_, h.la.setOther (by show d + 1 ≠ d; omega) _, h.fr.setOther (by show d + 1 + 1 ≠ d; omega) _, h.lr.setOther (by show d + 1 + 1 + 1 ≠ d; omega) _⟩
  split <;> rfl
theorem L3.set2 (h : L3 w wr n T W s a1 a2 a3 a4 d) (u : Nat) (x : Int) : L3 w (wr.setCell ⟨d + 1, u, none⟩ (.int .i64 x)) n T W s a1 (fun v => if v = u then x else a2 v) a3 a4 d := by
  obtain ⟨V, RV, hL⟩ := h.lms
  have hd := h.hd
  refine ⟨⟨V, RV, hL.setRow3 h.la (by omega) u _⟩, h.hd, h.fw.setOther (by show d ≠ d + 1; omega) _, (h.la.set u _).congr fun i hi => ?_, h.fr.setOther (by show d + 1 + 1 ≠ d + 1; omega) _, h.lr.setOther (by show d + 1 + 1 + 1 ≠ d + 1; omega) _⟩
  split <;> rfl
theorem L3.set3 (h : L3 w wr n T W s a1 a2 a3 a4 d) (u : Nat) (x : Int) : L3 w (wr.setCell ⟨d + 1 + 1, u, none⟩ (.int .i64 x)) n T W s a1 a2 (fun v => if v = u then x else a3 v) a4 d := by
  obtain ⟨V, RV, hL⟩ := h.lms
  have hd := h.hd
  refine ⟨⟨V, RV, hL.setRow3 h.fr (by omega) u _⟩, h.hd, h.fw.setOther (by show d ≠ d + 1 + 1; omega) _, h.la.setOther (by show d + 1 ≠ d + 1 + 1; omega) _, (h.fr.set u _).congr fun i hi => ?_, h.lr.setOther (by show d + 1 + 1 + 1 ≠ d + 1 + 1; omega) _⟩
  split <;> rfl
theorem L3.set4 (h : L3 w wr n T W s a1 a2 a3 a4 d) (u : Nat) (x : Int) : L3 w (wr.setCell ⟨d + 1 + 1 + 1, u, none⟩ (.int .i64 x)) n T W s a1 a2 a3 (fun v => if v = u then x else a4 v) d := by
  obtain ⟨V, RV, hL⟩ := h.lms
  have hd := h.hd
  refine ⟨⟨V, RV, hL.setRow3 h.lr (by omega) u _⟩, h.hd, h.fw.setOther (by show d ≠ d + 1 + 1 + 1; omega) _, h.la.setOther (by show d + 1 ≠ d + 1 + 1 + 1; omega) _, h.fr.setOther (by show d + 1 + 1 ≠ d + 1 + 1 + 1; omega) _, (h.lr.set u _).congr fun i hi => ?_⟩
  split <;> rfl

theorem L3.congr (h : L3 w wr n T W s a1 a2 a3 a4 d) {b1 b2 b3 b4 : Nat → Int} (e1 : ∀ u, u < n → a1 u = b1 u) (e2 : ∀ u, u < n → a2 u = b2 u) (e3 : ∀ u, u < n → a3 u = b3 u) (e4 : ∀ u, u < n → a4 u = b4 u) : L3 w wr n T W s b1 b2 b3 b4 d :=
  ⟨h.lms, h.hd, h.fw.congr fun i hi => by rw [e1 i hi], h.la.congr fun i hi => by rw [e2 i hi], h.fr.congr fun i hi => by rw [e3 i hi], h.lr.congr fun i hi => by rw [e4 i hi]⟩
end
end Go.Proofs.Qxb6601799a
