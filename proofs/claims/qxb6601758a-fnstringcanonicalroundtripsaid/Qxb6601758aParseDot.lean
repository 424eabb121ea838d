import Derived.Test.Qxb6601758aParse
namespace Go.Proofs.Qxb6601758a
open Go.ChangeShapes Go.WideShapes Go.ChangeAt Go.RowKit

structure Dot (s : ByteArray) (i d : Nat) : Prop where
  pos : i < d
  fits : d + 1 < s.size
  dig : ∀ k (h : k < s.size), i ≤ k → k ≠ d → 48 ≤ s[k].toNat ∧ s[k].toNat ≤ 57
  dot : (s[d]'(Nat.lt_of_succ_lt fits)).toNat = 46
  lead : i + 1 < d → (s[i]'(Nat.lt_trans pos (Nat.lt_of_succ_lt fits))).toNat ≠ 48
  last : (s[s.size - 1]'(Nat.sub_lt (Nat.lt_of_lt_of_le (Nat.succ_pos _) (Nat.le_of_lt fits)) Nat.one_pos)).toNat ≠ 48

theorem Dot.frac {s : ByteArray} {i d : Nat} (h : Dot s i d) (hb : s.size - (d + 1) - 1 < (s.extract (d + 1) s.size).size) : ((((s.extract (d + 1) s.size)[s.size - (d + 1) - 1]'hb).toNat : Int) == 48) = false := by
  have := h.last
  have hf := h.fits
  rw [beq_eq_false_iff_ne]
  simp only [ByteArray.getElem_extract]
  have e : d + 1 + (s.size - (d + 1) - 1) = s.size - 1 := by omega
  simp only [e]
  omega

theorem Dot.first {s : ByteArray} {i d : Nat} (h : Dot s i d) (h1 : i + 1 < d) (hb : 0 < (s.extract i d).size) : ((((s.extract i d)[0]'hb).toNat : Int) == 48) = false := by
  have := h.lead h1
  rw [beq_eq_false_iff_ne]
  simp only [ByteArray.getElem_extract, Nat.add_zero]
  omega

set_option maxHeartbeats 1000000 in
theorem parse_pos_dot (s : ByteArray) (d : Nat) (w : World) (hs : s.size ≤ 2097152) (h : Dot s 0 d) :
    Calls Try.prog 8 #[.string s] w fun e w' => e = .returned (.tuple #[.bool false, .string (if ((s.extract 0 d).toList == [48]) = true then ⟨#[]⟩ else s.extract 0 d), .string (s.extract (d + 1) s.size), .bool true]) ∧ w = w' := by
  have hp := h.pos
  have hf := h.fits
  have hp0 : 0 < s.size := by omega
  have hd0 : d < s.size := by omega
  have hdot : ((s[d].toNat : Int) == 46) = true := by rw [beq_iff_eq]; have := h.dot; omega
  have h0 : ((s[0].toNat : Int) == 45) = false := by rw [beq_eq_false_iff_ne]; have := h.dig 0 hp0 (by omega) (by omega); omega
  have HD : Hid (Dot s 0 d) := h
  clear h
  go_enter Try.func8, Try.ntmps8
  go_wp2
  go_loop [8, 9] (fun dd i => ∃ k : Nat, k ≤ s.size ∧ i = .int .i64 k ∧ (k ≤ d → dd = .int .i64 (-1)) ∧ (d < k → dd = .int .i64 d)) (fun _ i => s.size - (intOf i).toNat)
  case atStart => exact ⟨0, Nat.zero_le _, rfl, fun _ => rfl, fun h => by omega⟩
  case round =>
    obtain ⟨k, hk, rfl, hc1, hc2⟩ := hrel
    by_cases hlt : k < s.size
    · by_cases hkd : k = d
      · subst hkd
        obtain rfl := hc1 (Nat.le_refl _)
        clear hc1 hc2
        go_wp2
        go_round
        case rel => exact ⟨k + 1, by omega, by go_num, fun h => by omega, fun _ => rfl⟩
        case measure => simp [intOf]; omega
      · have hd := HD.out.dig k hlt (by omega) hkd
        have h1 : (48 : Int) ≤ (s[k].toNat : Int) := by omega
        have h2 : (s[k].toNat : Int) ≤ 57 := by omega
        clear hd
        by_cases hkd2 : k < d
        · obtain rfl := hc1 (Nat.le_of_lt hkd2)
          clear hc1 hc2
          go_wp2
          go_round
          case rel => exact ⟨k + 1, by omega, by go_num, fun _ => rfl, fun h => by omega⟩
          case measure => simp [intOf]; omega
        · obtain rfl := hc2 (by omega)
          clear hc1 hc2
          go_wp2
          go_round
          case rel => exact ⟨k + 1, by omega, by go_num, fun h => by omega, fun _ => rfl⟩
          case measure => simp [intOf]; omega
    · obtain rfl := hc2 (by omega)
      clear hc1 hc2 hdot
      have hb1 : s.size - (d + 1) - 1 < (s.extract (d + 1) s.size).size := by simp only [ByteArray.size_extract]; omega
      have hb2 : 0 < (s.extract 0 d).size := by simp only [ByteArray.size_extract]; omega
      have hF1 : (s.extract (d + 1) s.size).toList.isEmpty = false := notEmpty (by omega)
      have hF2 := HD.out.frac hb1
      have hW1 := notEmpty hb2
      by_cases h1 : 1 < d
      · have hW2 := HD.out.first (by omega) hb2
        have hmin : (1 : Int) < ((min d s.size : Nat) : Int) := by omega
        by_cases hzz : ((s.extract 0 d).toList == [48]) = true
        · go_wp2
          all_goals
            refine bodyPost_ret (results_tmp4 rfl _ _ _) rfl ?_
            exact ⟨rfl, rfl⟩
        · simp only [Bool.not_eq_true] at hzz
          go_wp2
          all_goals
            refine bodyPost_ret (results_tmp4 rfl _ _ _) rfl ?_
            exact ⟨rfl, rfl⟩
      · have hmin : ((min d s.size : Nat) : Int) ≤ 1 := by omega
        by_cases hzz : ((s.extract 0 d).toList == [48]) = true
        · go_wp2
          all_goals
            refine bodyPost_ret (results_tmp4 rfl _ _ _) rfl ?_
            exact ⟨rfl, rfl⟩
        · simp only [Bool.not_eq_true] at hzz
          go_wp2
          all_goals
            refine bodyPost_ret (results_tmp4 rfl _ _ _) rfl ?_
            exact ⟨rfl, rfl⟩
end Go.Proofs.Qxb6601758a
