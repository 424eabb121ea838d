import Derived.Test.Qxb6601772aEqual
import Derived.Test.Qxb6601772aAcc
namespace Go.Proofs.Qxb6601772a
open Go.ChangeShapes Go.WideShapes Go.ChangeAt Go.RowKit Go.Deep

theorem Try.info22 : (Try.prog.info? 22).map (fun i => (i.zero, i.size, i.bytes)) = some (some (.slice none 0 0), 1, 24) := by kernel_rfl

/-- the carved lists: list t is empty, with room for c t cells that begin at o t -/
def listRow (A : Nat → Option Addr) (c : Nat → Nat) (k t : Nat) : Value := if t < k then .slice (A t) 0 (c t) else .slice none 0 0

theorem list_set {w : World} {LB nt k : Nat} {A : Nat → Option Addr} {c : Nat → Nat} (h : w.rowIs LB 22 nt (listRow A c k)) (X : Option Addr) :
    (w.setCell ⟨LB, k, none⟩ (.slice X 0 (c k))).rowIs LB 22 nt (listRow (fun t => if t = k then X else A t) c (k + 1)) :=
  (h.set k _).congr fun i hi => by
    unfold listRow
    by_cases e : i = k
    · subst e; simp
    · have : (i < k + 1) ↔ (i < k) := by omega
      simp [e, this]

set_option maxHeartbeats 1600000 in
theorem carve25 (CB nt : Nat) (c o : Nat → Nat) (h0 : o 0 = 0) (hs : ∀ t, t < nt → o (t + 1) = o t + c t) (hm : ∀ t, t ≤ nt → o t ≤ o nt) (hb : o nt ≤ 65536) (hnt : nt ≤ 65536) (w : World)
    (hrow : w.rowIs CB 3 nt (fun t => .int .i64 ((c t : Nat) : Int))) :
    Calls Try.prog 25 #[.slice (some ⟨CB, 0, none⟩) nt nt] w fun e w' => e = .returned (.slice (some ⟨w.heap.size + 1, 0, none⟩) nt nt) ∧
      ∃ A : Nat → Option Addr, (∀ t, t < nt → 0 < c t → A t = some ⟨w.heap.size, o t, none⟩) ∧ w'.rowIs w.heap.size 3 (o nt) (fun _ => .int .i64 0) ∧ w'.rowIs (w.heap.size + 1) 22 nt (listRow A c nt) ∧ Below w.heap.size w w' := by
  have hlow := hrow.lt
  have HR := hid hrow
  have HS := hid hs
  have HM := hid hm
  have H0 := hid h0
  clear hrow hs hm h0
  go_enter Try.func25, Try.ntmps25
  go_wp2
  go_loop [3, 12] (fun z i => ∃ k : Nat, k ≤ nt ∧ i = .int .i64 k ∧ z = .int .i64 ((o k : Nat) : Int)) (fun _ i => nt - (intOf i).toNat)
  case atStart => exact ⟨0, Nat.zero_le _, rfl, by rw [H0.out]; rfl⟩
  case round =>
    obtain ⟨k, hk, rfl, rfl⟩ := hrel
    by_cases hlt : k < nt
    · have hc := HR.out.cell hlt
      have h1 := HM.out (k + 1) (by omega)
      have h2 : o k + c k ≤ o nt := by rw [← HS.out k hlt]; exact h1
      clear h1
      go_wp2
      go_round
      case rel => exact ⟨k + 1, by omega, by go_num, by rw [HS.out k hlt]; go_num⟩
      case measure => simp [intOf]; omega
    · obtain rfl : k = nt := by omega
      have hmk := run_make_row' (P := Try.prog) 22 3 (.int .i64 0) 8 Try.underlying22 Try.info3 rfl .i64 .i64 (o k) (by omega) (by omega)
      have hmk2 := run_make_row' (P := Try.prog) 71 22 (.slice none 0 0) 24 Try.underlying71 Try.info22 rfl .i64 .i64 k (by omega) (by omega)
      go_wp2
      clear hmk hmk2
      go_loopw [6, 27] (fun al i wr => ∃ (k2 N : Nat) (AA : Addr) (A : Nat → Option Addr), k2 ≤ k ∧ i = .int .i64 k2 ∧ al = .slice (some AA) N N ∧ o k2 + N = o k ∧ (0 < N → AA = ⟨w.heap.size, o k2, none⟩) ∧
          (∀ t, t < k2 → 0 < c t → A t = some ⟨w.heap.size, o t, none⟩) ∧ wr.rowIs w.heap.size 3 (o k) (fun _ => .int .i64 0) ∧ wr.rowIs (w.heap.size + 1) 22 k (listRow A c k2) ∧ Below w.heap.size w wr) (fun _ i _ => k - (intOf i).toNat)
      case atStart =>
        refine ⟨0, o k, ⟨w.heap.size, 0, none⟩, fun _ => none, Nat.zero_le _, rfl, rfl, by rw [H0.out]; omega, fun _ => by rw [H0.out], fun t ht => by omega, (World.rowIs_made w _ (o k) 3).alloc _, ?_, ((Below.refl _ _).alloc (Nat.le_refl _) _).alloc (by simp) _⟩
        have h := World.rowIs_made (w.alloc (.cells (madeCells #[.int .i64 0] (o k)) 3)) (.slice none 0 0) k 22
        have e : (w.alloc (.cells (madeCells #[.int .i64 0] (o k)) 3)).heap.size = w.heap.size + 1 := by simp
        rw [e] at h
        exact h.congr fun i hi => by simp [listRow]
      case round =>
        obtain ⟨k2, N, AA, A, hk2, rfl, rfl, hoN, hAA, hA, hall, hlist, hbel⟩ := hrel
        have HA := hid hA
        have HAll := hid hall
        have HL := hid hlist
        have HB := hid hbel
        have HN := hid hoN
        clear hA hoN
        by_cases hlt2 : k2 < k
        · have hc : wr.cell? ⟨CB, k2, none⟩ = some (.int .i64 ((c k2 : Nat) : Int)) := (hbel.cell hlow).trans (HR.out.cell hlt2)
          have hl := hlist.cell hlt2
          have hf := hlist.frozen k2
          have hcN : c k2 ≤ N := by
            have h1 := HM.out (k2 + 1) (by omega)
            rw [HS.out k2 hlt2] at h1
            have := HN.out
            omega
          have hN6 : N ≤ 65536 := by have := HN.out; omega
          clear hall hlist hbel
          by_cases hz : N = c k2
          · subst hz
            have HAA := hid hAA
            clear hAA
            go_wp2
            go_region
            all_goals go_wp2
            all_goals go_roundw
            case rel =>
              refine ⟨k2 + 1, 0, AA, fun t => if t = k2 then some AA else A t, by omega, by go_num, rfl, by rw [HS.out k2 hlt2]; have := HN.out; omega, fun h => by omega, fun t ht h0 => ?_, (HAll.out.setOther (by simp) _).drew, (list_set HL.out _).drew, (HB.out.setCell (by simp) _).drew⟩
              by_cases e : t = k2
              · subst e
                dsimp only
                rw [if_pos rfl, HAA.out h0]
              · dsimp only
                rw [if_neg e]
                exact HA.out t (by omega) h0
            case measure => simp [intOf]; omega
          · obtain rfl := hAA (by omega)
            clear hAA
            go_wp2
            go_region
            all_goals go_wp2
            all_goals go_roundw
            case rel =>
              refine ⟨k2 + 1, N - c k2, _, fun t => if t = k2 then some ⟨w.heap.size, o k2, none⟩ else A t, by omega, by go_num, rfl, by rw [HS.out k2 hlt2]; have := HN.out; omega, fun h => by rw [HS.out k2 hlt2], fun t ht h0 => ?_, (HAll.out.setOther (by simp) _).drew, (list_set HL.out _).drew, (HB.out.setCell (by simp) _).drew⟩
              by_cases e : t = k2
              · subst e
                dsimp only
                rw [if_pos rfl]
              · dsimp only
                rw [if_neg e]
                exact HA.out t (by omega) h0
            case measure => simp [intOf]; omega
        · obtain rfl : k2 = k := by omega
          clear hall hlist hbel hAA
          go_wp2
          go_ret
          exact ⟨rfl, A, HA.out, HAll.out, HL.out, HB.out⟩
end Go.Proofs.Qxb6601772a
