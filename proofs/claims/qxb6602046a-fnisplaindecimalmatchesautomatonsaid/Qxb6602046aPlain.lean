import Derived.Test.Qxb6602046aAcc
import Derived.Deep.CutRange
namespace Go.Proofs.Qxb6602046a
open Go.ChangeShapes Go.WideShapes Go.ChangeAt Go.RowKit

theorem notEmpty {x : ByteArray} (h : 0 < x.size) : x.toList.isEmpty = false := by
  rw [ByteArray.toList_eq]
  have : x.data.toList.length = x.size := by simp
  cases hx : x.data.toList with
  | nil => rw [hx] at this; simp at this; omega
  | cons _ _ => rfl
theorem empty_of {a : ByteArray} (h : a.size = 0) : a = ⟨#[]⟩ := by
  apply ByteArray.ext_getElem
  · exact h
  · intro i hi; omega
theorem isEmpty_of {x : ByteArray} (h : x.size = 0) : x.toList.isEmpty = true := by
  rw [empty_of h, ByteArray.toList_eq]; rfl

set_option maxRecDepth 100000 in
set_option maxHeartbeats 1600000 in
theorem plain_contract (s : ByteArray) (m : Int) (w : World) (hs : s.size ≤ 1048576) :
    Calls Try.prog 17 #[.string s, .int .i64 m] w fun e w' => (∃ b : Bool, e = .returned (.bool b) ∧ (b = true ↔ AccS s m)) ∧ w' = w := by
  obtain ⟨t, ht⟩ : ∃ t : ByteArray, t = if bt s 0 = 45 then s.extract 1 s.size else s := ⟨_, rfl⟩
  have htz : t.size = s.size - off s := by
    rw [ht, off]; split
    · exact size_tail 1
    · omega
  have htz1 : t.size ≤ s.size - off s := by omega
  have htz2 : s.size - off s ≤ t.size := by omega
  clear htz
  have htf : Hid (∀ j, bt t j = fig s j) := fun j => by
    rw [ht, fig, off]; split
    · exact bt_extract j
    · simp
  have htm : t.size ≤ maxLen := by unfold maxLen; omega
  have hol := off_le (s := s)
  by_cases h1 : 0 < s.size
  · have hb00 := bt_at h1
    by_cases h2 : bt s 0 = 45
    · rw [if_pos h2] at ht
      have hbm : ((s[0].toNat : Int) == 45) = true := by rw [← hb00, h2]; rfl
      clear hb00 h2
      go_enter Try.func17, Try.ntmps17
      go_wp2_with fail
      rw [← ht]
      clear ht hbm
      refine (leading_contract t w htm).mono ?_
      rintro e w1 ⟨⟨n, rfl, hn⟩, hw⟩
      obtain rfl := hw.symm
      obtain ⟨hn1, hn2, hn3⟩ := hn.plain
      have N2 := hid hn2
      have N3 := hid hn3
      clear hn hn2 hn3
      by_cases h0 : n = 0
      · subst h0
        go_wp2
        go_ret
        refine ⟨⟨false, rfl, ⟨fun h => by simp at h, fun h => ?_⟩⟩, rfl⟩
        obtain ⟨hL, hd⟩ := Acc.first h
        exact absurd (by rw [htf.out 0]; exact hd) (N3.out (by omega))
      · have hb0 : ((n : Int) == 0) = false := by simp [h0]
        go_upto_region 7 with fail
        obtain ⟨x, hx⟩ : ∃ x : ByteArray, x = t.extract n t.size := ⟨_, rfl⟩
        have hxt : x = t.extract n t.size := hx
        have hxz1 : x.size ≤ t.size - n := by rw [hxt, size_tail]; omega
        have hxz2 : t.size - n ≤ x.size := by rw [hxt, size_tail]; omega
        have hxf : Hid (∀ j, bt x j = fig s (n + j)) := fun j => by rw [hxt, bt_extract, htf.out]
        rw [← hx]
        clear hx hxt
        by_cases hnl : n = t.size
        · have he : x.toList.isEmpty = true := isEmpty_of (by omega)
          go_wp2
          go_ret
          refine ⟨⟨true, rfl, ⟨fun _ => .inl ⟨by omega, fun j hj => ?_⟩, fun _ => rfl⟩⟩, rfl⟩
          rw [← htf.out]; exact N2.out j (by omega)
        · have hxp : 0 < x.size := by omega
          have he : x.toList.isEmpty = false := notEmpty hxp
          have hb : Hid (∀ h : AccS s m, fig s n = 46 ∧ n + 1 < s.size - off s ∧ (∀ j, n < j → j < s.size - off s → dg (fig s j)) ∧ ((s.size - off s - n - 1 : Nat) : Int) ≤ m) := fun h => by
            refine Acc.behind h (fun j hj => ?_) (by omega) ?_
            · rw [← htf.out]; exact N2.out j hj
            · rw [← htf.out]; exact N3.out (by omega)
          have hx0 : (x[0].toNat) = fig s n := by rw [← bt_at hxp, hxf.out]; rfl
          by_cases h46 : fig s n = 46
          · have hb1 : ((x[0].toNat : Int) == 46) = true := by rw [hx0, h46]; rfl
            go_wp2_with fail
            have hym : (x.extract 1 x.size).size ≤ maxLen := by rw [size_tail]; unfold maxLen; omega
            refine (leading_contract _ w hym).mono ?_
            rintro e w1 ⟨⟨r, rfl, hr⟩, hw⟩
            obtain rfl := hw.symm
            obtain ⟨hr1, hr2, hr3⟩ := hr.plain
            rw [size_tail] at hr1 hr3
            have R2 : Hid (∀ j, j < r → dg (fig s (n + 1 + j))) := fun j hj => by
              have := hr2 j hj
              rw [bt_extract, hxf.out] at this
              rw [Nat.add_assoc]; exact this
            have R3 : Hid (r < x.size - 1 → ¬ dg (fig s (n + 1 + r))) := fun h => by
              have := hr3 h
              rw [bt_extract, hxf.out] at this
              rw [Nat.add_assoc]; exact this
            clear hr hr2 hr3 hb1 hx0
            have hA : Hid (AccS s m ↔ (0 < r ∧ (r : Int) ≤ m ∧ r = x.size - 1)) := by
              constructor
              · intro h
                obtain ⟨_, g2, g3, g4⟩ := hb.out h
                have hre : r = x.size - 1 := by
                  by_cases hl : r < x.size - 1
                  · exact absurd (g3 (n + 1 + r) (by omega) (by omega)) (R3.out hl)
                  · omega
                exact ⟨by omega, by omega, hre⟩
              · rintro ⟨g1, g2, g3⟩
                refine .inr ⟨n, by omega, by omega, fun j hj => ?_, h46, fun j hj hl => ?_, by omega⟩
                · rw [← htf.out]; exact N2.out j hj
                · have := R2.out (j - (n + 1)) (by omega)
                  rwa [show n + 1 + (j - (n + 1)) = j by omega] at this
            clear hb R2 R3 N2 N3
            by_cases c1 : 0 < r
            · have d1 : decide ((0 : Int) < (r : Int)) = true := decide_eq_true (by omega)
              by_cases c2 : (r : Int) ≤ m
              · have d2 : decide ((r : Int) ≤ m) = true := decide_eq_true c2
                by_cases c3 : r = x.size - 1
                · have d3 : ((r : Int) == (x.size : Int) - 1) = true := by rw [beq_iff_eq]; omega
                  go_wp2
                  go_ret
                  exact ⟨⟨true, by first | (simp; done) | (simp; omega), ⟨fun _ => hA.out.2 ⟨c1, c2, c3⟩, fun _ => rfl⟩⟩, rfl⟩
                · have d3 : ((r : Int) == (x.size : Int) - 1) = false := by rw [beq_eq_false_iff_ne]; omega
                  go_wp2
                  go_ret
                  exact ⟨⟨false, by simp, ⟨fun h => by simp at h, fun h => absurd (hA.out.1 h).2.2 c3⟩⟩, rfl⟩
              · have d2 : decide ((r : Int) ≤ m) = false := decide_eq_false c2
                go_wp2
                go_ret
                exact ⟨⟨false, by simp, ⟨fun h => by simp at h, fun h => absurd (hA.out.1 h).2.1 (by omega)⟩⟩, rfl⟩
            · have d1 : decide ((0 : Int) < (r : Int)) = false := decide_eq_false (by omega)
              go_wp2
              go_ret
              exact ⟨⟨false, by simp, ⟨fun h => by simp at h, fun h => absurd (hA.out.1 h).1 c1⟩⟩, rfl⟩
          · have hb1 : ((x[0].toNat : Int) == 46) = false := by rw [hx0, beq_eq_false_iff_ne]; omega
            go_wp2
            go_ret
            exact ⟨⟨false, rfl, ⟨fun h => by simp at h, fun h => absurd (hb.out h).1 h46⟩⟩, rfl⟩
    · rw [if_neg h2] at ht
      have hbm : ((s[0].toNat : Int) == 45) = false := by rw [← hb00, beq_eq_false_iff_ne]; omega
      clear hb00 h2
      go_enter Try.func17, Try.ntmps17
      go_wp2_with fail
      have HU : Hid (s = t) := ht.symm
      clear ht hbm
      refine (leading_contract s w (by rw [HU.out]; exact htm)).mono ?_
      rintro e w1 ⟨⟨n, rfl, hn⟩, hw⟩
      obtain rfl := hw.symm
      obtain ⟨hn1, hn2, hn3⟩ := (HU.out ▸ hn : LD t n).plain
      have hnu : n ≤ s.size := by rw [HU.out]; exact hn1
      have N2 := hid hn2
      have N3 := hid hn3
      clear hn hn2 hn3
      by_cases h0 : n = 0
      · subst h0
        go_wp2
        go_ret
        refine ⟨⟨false, rfl, ⟨fun h => by simp at h, fun h => ?_⟩⟩, rfl⟩
        obtain ⟨hL, hd⟩ := Acc.first h
        exact absurd (by rw [htf.out 0]; exact hd) (N3.out (by omega))
      · have hb0 : ((n : Int) == 0) = false := by simp [h0]
        go_upto_region 7 with fail
        obtain ⟨x, hx⟩ : ∃ x : ByteArray, x = s.extract n s.size := ⟨_, rfl⟩
        have hxt : x = t.extract n t.size := hx.trans (by rw [HU.out])
        have hxz1 : x.size ≤ t.size - n := by rw [hxt, size_tail]; omega
        have hxz2 : t.size - n ≤ x.size := by rw [hxt, size_tail]; omega
        have hxf : Hid (∀ j, bt x j = fig s (n + j)) := fun j => by rw [hxt, bt_extract, htf.out]
        rw [← hx]
        clear hx hxt
        by_cases hnl : n = t.size
        · have he : x.toList.isEmpty = true := isEmpty_of (by omega)
          go_wp2
          go_ret
          refine ⟨⟨true, rfl, ⟨fun _ => .inl ⟨by omega, fun j hj => ?_⟩, fun _ => rfl⟩⟩, rfl⟩
          rw [← htf.out]; exact N2.out j (by omega)
        · have hxp : 0 < x.size := by omega
          have he : x.toList.isEmpty = false := notEmpty hxp
          have hb : Hid (∀ h : AccS s m, fig s n = 46 ∧ n + 1 < s.size - off s ∧ (∀ j, n < j → j < s.size - off s → dg (fig s j)) ∧ ((s.size - off s - n - 1 : Nat) : Int) ≤ m) := fun h => by
            refine Acc.behind h (fun j hj => ?_) (by omega) ?_
            · rw [← htf.out]; exact N2.out j hj
            · rw [← htf.out]; exact N3.out (by omega)
          have hx0 : (x[0].toNat) = fig s n := by rw [← bt_at hxp, hxf.out]; rfl
          by_cases h46 : fig s n = 46
          · have hb1 : ((x[0].toNat : Int) == 46) = true := by rw [hx0, h46]; rfl
            go_wp2_with fail
            have hym : (x.extract 1 x.size).size ≤ maxLen := by rw [size_tail]; unfold maxLen; omega
            refine (leading_contract _ w hym).mono ?_
            rintro e w1 ⟨⟨r, rfl, hr⟩, hw⟩
            obtain rfl := hw.symm
            obtain ⟨hr1, hr2, hr3⟩ := hr.plain
            rw [size_tail] at hr1 hr3
            have R2 : Hid (∀ j, j < r → dg (fig s (n + 1 + j))) := fun j hj => by
              have := hr2 j hj
              rw [bt_extract, hxf.out] at this
              rw [Nat.add_assoc]; exact this
            have R3 : Hid (r < x.size - 1 → ¬ dg (fig s (n + 1 + r))) := fun h => by
              have := hr3 h
              rw [bt_extract, hxf.out] at this
              rw [Nat.add_assoc]; exact this
            clear hr hr2 hr3 hb1 hx0
            have hA : Hid (AccS s m ↔ (0 < r ∧ (r : Int) ≤ m ∧ r = x.size - 1)) := by
              constructor
              · intro h
                obtain ⟨_, g2, g3, g4⟩ := hb.out h
                have hre : r = x.size - 1 := by
                  by_cases hl : r < x.size - 1
                  · exact absurd (g3 (n + 1 + r) (by omega) (by omega)) (R3.out hl)
                  · omega
                exact ⟨by omega, by omega, hre⟩
              · rintro ⟨g1, g2, g3⟩
                refine .inr ⟨n, by omega, by omega, fun j hj => ?_, h46, fun j hj hl => ?_, by omega⟩
                · rw [← htf.out]; exact N2.out j hj
                · have := R2.out (j - (n + 1)) (by omega)
                  rwa [show n + 1 + (j - (n + 1)) = j by omega] at this
            clear hb R2 R3 N2 N3
            by_cases c1 : 0 < r
            · have d1 : decide ((0 : Int) < (r : Int)) = true := decide_eq_true (by omega)
              by_cases c2 : (r : Int) ≤ m
              · have d2 : decide ((r : Int) ≤ m) = true := decide_eq_true c2
                by_cases c3 : r = x.size - 1
                · have d3 : ((r : Int) == (x.size : Int) - 1) = true := by rw [beq_iff_eq]; omega
                  go_wp2
                  go_ret
                  exact ⟨⟨true, by first | (simp; done) | (simp; omega), ⟨fun _ => hA.out.2 ⟨c1, c2, c3⟩, fun _ => rfl⟩⟩, rfl⟩
                · have d3 : ((r : Int) == (x.size : Int) - 1) = false := by rw [beq_eq_false_iff_ne]; omega
                  go_wp2
                  go_ret
                  exact ⟨⟨false, by simp, ⟨fun h => by simp at h, fun h => absurd (hA.out.1 h).2.2 c3⟩⟩, rfl⟩
              · have d2 : decide ((r : Int) ≤ m) = false := decide_eq_false c2
                go_wp2
                go_ret
                exact ⟨⟨false, by simp, ⟨fun h => by simp at h, fun h => absurd (hA.out.1 h).2.1 (by omega)⟩⟩, rfl⟩
            · have d1 : decide ((0 : Int) < (r : Int)) = false := decide_eq_false (by omega)
              go_wp2
              go_ret
              exact ⟨⟨false, by simp, ⟨fun h => by simp at h, fun h => absurd (hA.out.1 h).1 c1⟩⟩, rfl⟩
          · have hb1 : ((x[0].toNat : Int) == 46) = false := by rw [hx0, beq_eq_false_iff_ne]; omega
            go_wp2
            go_ret
            exact ⟨⟨false, rfl, ⟨fun h => by simp at h, fun h => absurd (hb.out h).1 h46⟩⟩, rfl⟩
  · have h2 : bt s 0 ≠ 45 := by unfold bt; rw [dif_neg h1]; omega
    rw [if_neg h2] at ht
    clear h2
    go_enter Try.func17, Try.ntmps17
    go_wp2_with fail
    have HU : Hid (s = t) := ht.symm
    clear ht
    refine (leading_contract s w (by rw [HU.out]; exact htm)).mono ?_
    rintro e w1 ⟨⟨n, rfl, hn⟩, hw⟩
    obtain rfl := hw.symm
    obtain ⟨hn1, hn2, hn3⟩ := (HU.out ▸ hn : LD t n).plain
    have hnu : n ≤ s.size := by rw [HU.out]; exact hn1
    have N2 := hid hn2
    have N3 := hid hn3
    clear hn hn2 hn3
    have h0 : n = 0 := by omega
    subst h0
    go_wp2
    go_ret
    refine ⟨⟨false, rfl, ⟨fun h => by simp at h, fun h => ?_⟩⟩, rfl⟩
    obtain ⟨hL, hd⟩ := Acc.first h
    omega

theorem plain9_contract (s : ByteArray) (m : Int) (w : World) (hs : s.size ≤ 1048576) :
    Calls Try.prog 9 #[.string s, .int .i64 m] w fun e w' => (∃ b : Bool, e = .returned (.bool b) ∧ (b = true ↔ AccS s m)) ∧ w' = w := by
  go_enter Try.func9, Try.ntmps9
  go_wp2_with fail
  refine (plain_contract s m w hs).mono ?_
  rintro e w1 ⟨⟨b, rfl, hn⟩, hw⟩
  obtain rfl := hw.symm
  have HN := hid hn
  clear hn
  go_wp2
  go_ret
  exact ⟨⟨b, rfl, HN.out⟩, rfl⟩
end Go.Proofs.Qxb6602046a
