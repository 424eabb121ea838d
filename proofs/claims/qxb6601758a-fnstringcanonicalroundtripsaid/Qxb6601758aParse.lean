import Derived.Test.Qxb6601758aDigits
namespace Go.Proofs.Qxb6601758a
open Go.ChangeShapes Go.WideShapes Go.ChangeAt Go.RowKit

theorem results_tmp4 {fn : Func} {t u v x : Tmp} (h : fn.results = #[.tmp t, .tmp u, .tmp v, .tmp x]) (tmps : Array Value) (P : Program) (w : World) :
    (results fn tmps).run P w = .ok (.tuple #[tmps.getD t undef, tmps.getD u undef, tmps.getD v undef, tmps.getD x undef]) w := by
  simp [results, h]

theorem notEmpty {x : ByteArray} (h : 0 < x.size) : x.toList.isEmpty = false := by
  rw [ByteArray.toList_eq]
  have : x.data.toList.length = x.size := by simp
  cases hx : x.data.toList with
  | nil => rw [hx] at this; simp at this; omega
  | cons a l => rfl
theorem notNil {x : ByteArray} (h : 0 < x.size) : ¬ (x.toList = []) := by
  have := notEmpty h
  intro e
  rw [e] at this
  simp at this

/-- what the parser is handed, no point -/
structure NoDot (s : ByteArray) (i : Nat) : Prop where
  pos : i < s.size
  dig : ∀ k (h : k < s.size), i ≤ k → 48 ≤ s[k].toNat ∧ s[k].toNat ≤ 57
  lead : i + 1 < s.size → (s[i]'pos).toNat ≠ 48

set_option maxHeartbeats 400000 in
theorem parse_pos_nodot (s : ByteArray) (w : World) (hs : s.size ≤ 2097152) (h : NoDot s 0) :
    Calls Try.prog 8 #[.string s] w fun e w' => e = .returned (.tuple #[.bool false, .string (if (s.toList == [48]) = true then ⟨#[]⟩ else s), .string ⟨#[]⟩, .bool true]) ∧ w = w' := by
  have hp := h.pos
  have hne : s.toList.isEmpty = false := notEmpty hp
  have h0 : ((s[0].toNat : Int) == 45) = false := by rw [beq_eq_false_iff_ne]; have := h.dig 0 hp (by omega); omega
  have HD : Hid (NoDot s 0) := h
  clear h
  go_enter Try.func8, Try.ntmps8
  go_wp2
  go_loop [8, 9] (fun d i => ∃ k : Nat, k ≤ s.size ∧ i = .int .i64 k ∧ d = .int .i64 (-1)) (fun _ i => s.size - (intOf i).toNat)
  case atStart => exact ⟨0, Nat.zero_le _, rfl, rfl⟩
  case round =>
    obtain ⟨k, hk, rfl, rfl⟩ := hrel
    by_cases hlt : k < s.size
    · have hd := HD.out.dig k hlt (by omega)
      have h1 : (48 : Int) ≤ (s[k].toNat : Int) := by omega
      have h2 : (s[k].toNat : Int) ≤ 57 := by omega
      clear hd
      go_wp2
      go_round
      case rel => exact ⟨k + 1, by omega, by go_num, rfl⟩
      case measure => simp [intOf]; omega
    · by_cases h1 : 1 < s.size
      · have h48 : ((s[0].toNat : Int) == 48) = false := by
          have := HD.out.lead h1; rw [beq_eq_false_iff_ne]; omega
        by_cases hzz : (s.toList == [48]) = true
        · go_wp2
          refine bodyPost_ret (results_tmp4 rfl _ _ _) rfl ?_
          exact ⟨by simp, rfl⟩
        · simp only [Bool.not_eq_true] at hzz
          go_wp2
          refine bodyPost_ret (results_tmp4 rfl _ _ _) rfl ?_
          exact ⟨by simp, rfl⟩
      · by_cases hzz : (s.toList == [48]) = true
        · go_wp2
          refine bodyPost_ret (results_tmp4 rfl _ _ _) rfl ?_
          exact ⟨by simp, rfl⟩
        · simp only [Bool.not_eq_true] at hzz
          go_wp2
          refine bodyPost_ret (results_tmp4 rfl _ _ _) rfl ?_
          exact ⟨by simp, rfl⟩

theorem NoDot.first {s : ByteArray} (h : NoDot s 1) (h1 : 2 < s.size) (hb : 0 < (s.extract 1 s.size).size) : ((((s.extract 1 s.size)[0]'hb).toNat : Int) == 48) = false := by
  have := h.lead h1
  rw [beq_eq_false_iff_ne]
  simp only [ByteArray.getElem_extract, Nat.add_zero]
  omega

set_option maxHeartbeats 400000 in
theorem parse_neg_nodot (s : ByteArray) (w : World) (hs : s.size ≤ 2097152) (hp : 1 < s.size) (h : NoDot s 1) (hm : ((s[0]'(by omega)).toNat = 45))
    (hz : ((s.extract 1 s.size).toList == [48]) = false) :
    Calls Try.prog 8 #[.string s] w fun e w' => e = .returned (.tuple #[.bool true, .string (s.extract 1 s.size), .string ⟨#[]⟩, .bool true]) ∧ w = w' := by
  have hp0 : 0 < s.size := by omega
  have h0 : ((s[0].toNat : Int) == 45) = true := by rw [beq_iff_eq]; omega
  have HZ : Hid (((s.extract 1 s.size).toList == [48]) = false) := hz
  have HD : Hid (NoDot s 1) := h
  clear h hz hm
  go_enter Try.func8, Try.ntmps8
  go_wp2
  go_loop [8, 9] (fun d i => ∃ k : Nat, 1 ≤ k ∧ k ≤ s.size ∧ i = .int .i64 k ∧ d = .int .i64 (-1)) (fun _ i => s.size - (intOf i).toNat)
  case atStart => exact ⟨1, Nat.le_refl _, by omega, rfl, rfl⟩
  case round =>
    obtain ⟨k, hk1, hk, rfl, rfl⟩ := hrel
    by_cases hlt : k < s.size
    · have hd := HD.out.dig k hlt (by omega)
      have h1 : (48 : Int) ≤ (s[k].toNat : Int) := by omega
      have h2 : (s[k].toNat : Int) ≤ 57 := by omega
      clear hd
      go_wp2
      go_round
      case rel => exact ⟨k + 1, by omega, by omega, by go_num, rfl⟩
      case measure => simp [intOf]; omega
    · have hne : (s.extract 1 s.size).toList.isEmpty = false := notEmpty (by simp only [ByteArray.size_extract]; omega)
      have hz := HZ.out
      by_cases h2 : 2 < s.size
      · have hb : 0 < (s.extract 1 s.size).size := by simp only [ByteArray.size_extract]; omega
        have h48 := HD.out.first h2 hb
        have h1 : (1 : Int) < ((s.size - 1 : Nat) : Int) := by omega
        go_wp2
        refine bodyPost_ret (results_tmp4 rfl _ _ _) rfl ?_
        exact ⟨rfl, rfl⟩
      · have h1 : ¬ (1 : Int) < ((s.size - 1 : Nat) : Int) := by omega
        go_wp2
        refine bodyPost_ret (results_tmp4 rfl _ _ _) rfl ?_
        exact ⟨rfl, rfl⟩
end Go.Proofs.Qxb6601758a
