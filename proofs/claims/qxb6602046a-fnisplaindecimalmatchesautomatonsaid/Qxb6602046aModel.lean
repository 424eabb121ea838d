import Derived.Test.Qxb6602046aAcc
namespace Go.Proofs.Qxb6602046a
open Go.ChangeShapes Go.WideShapes Go.ChangeAt Go.RowKit

/-- What the automaton's state says of the bytes ahead of place i. -/
def AS (s : ByteArray) (i : Nat) (st pl : Int) : Prop :=
  (st = 0 ∧ i = 0) ∨ (st = 1 ∧ i = 1 ∧ off s = 1) ∨ (st = 2 ∧ off s < i ∧ ∀ j, off s + j < i → dg (fig s j)) ∨
  (st = 3 ∧ ∃ q, 0 < q ∧ off s + q + 1 = i ∧ (∀ j, j < q → dg (fig s j)) ∧ fig s q = 46) ∨
  (st = 4 ∧ ∃ q, 0 < q ∧ off s + q + 1 < i ∧ (∀ j, j < q → dg (fig s j)) ∧ fig s q = 46 ∧ (∀ j, q < j → off s + j < i → dg (fig s j)) ∧ pl = ((i - off s - q - 1 : Nat) : Int))

theorem AS.at0 {s : ByteArray} {pl : Int} : AS s 0 0 pl := .inl ⟨rfl, rfl⟩

theorem s0_minus {s : ByteArray} {pl : Int} (h : bt s 0 = 45) : AS s 1 1 pl := .inr (.inl ⟨rfl, rfl, by simp [off, h]⟩)
theorem off0 {s : ByteArray} (h : bt s 0 ≠ 45) : off s = 0 := by simp [off, h]
theorem s0_digit {s : ByteArray} {pl : Int} (h : dg (bt s 0)) : AS s 1 2 pl := by
  have ho : off s = 0 := off0 (by unfold dg at h; omega)
  refine .inr (.inr (.inl ⟨rfl, by omega, fun j hj => ?_⟩))
  have : j = 0 := by omega
  subst this
  simpa [fig, ho] using h
theorem s0_no {s : ByteArray} {m : Int} (h1 : bt s 0 ≠ 45) (h2 : ¬ dg (bt s 0)) : ¬ AccS s m := fun h => by
  have := (Acc.first h).2
  rw [fig, off0 h1] at this
  exact h2 this
theorem s1_digit {s : ByteArray} {pl : Int} (ho : off s = 1) (h : dg (bt s 1)) : AS s 2 2 pl := by
  refine .inr (.inr (.inl ⟨rfl, by omega, fun j hj => ?_⟩))
  have : j = 0 := by omega
  subst this
  simpa [fig, ho] using h
theorem s1_no {s : ByteArray} {m : Int} (ho : off s = 1) (h2 : ¬ dg (bt s 1)) : ¬ AccS s m := fun h => by
  have := (Acc.first h).2
  rw [fig, ho] at this
  exact h2 this

theorem fig_at {s : ByteArray} {i : Nat} (h : off s ≤ i) : bt s i = fig s (i - off s) := by
  unfold fig; rw [show off s + (i - off s) = i by omega]

theorem s2_point {s : ByteArray} {i : Nat} {pl : Int} (hi : off s < i) (hd : ∀ j, off s + j < i → dg (fig s j)) (h : bt s i = 46) : AS s (i + 1) 3 pl :=
  .inr (.inr (.inr (.inl ⟨rfl, i - off s, by omega, by omega, fun j hj => hd j (by omega), by rw [← fig_at (by omega)]; exact h⟩)))
theorem s2_digit {s : ByteArray} {i : Nat} {pl : Int} (hi : off s < i) (hd : ∀ j, off s + j < i → dg (fig s j)) (h : dg (bt s i)) : AS s (i + 1) 2 pl := by
  refine .inr (.inr (.inl ⟨rfl, by omega, fun j hj => ?_⟩))
  by_cases e : off s + j = i
  · have : j = i - off s := by omega
    rw [this, ← fig_at (by omega)]; exact h
  · exact hd j (by omega)
theorem s2_no {s : ByteArray} {i : Nat} {m : Int} (hi : off s < i) (hs : i < s.size) (hd : ∀ j, off s + j < i → dg (fig s j)) (h1 : bt s i ≠ 46) (h2 : ¬ dg (bt s i)) : ¬ AccS s m := fun h => by
  rw [fig_at (by omega)] at h1 h2
  exact h1 (Acc.behind h (fun j hj => hd j (by omega)) (by omega) h2).1

theorem s3_digit {s : ByteArray} {i q : Nat} (hq : 0 < q) (hi : off s + q + 1 = i) (hd : ∀ j, j < q → dg (fig s j)) (h4 : fig s q = 46) (h : dg (bt s i)) : AS s (i + 1) 4 1 := by
  refine .inr (.inr (.inr (.inr ⟨rfl, q, hq, by omega, hd, h4, fun j hj hl => ?_, by omega⟩)))
  have : j = i - off s := by omega
  rw [this, ← fig_at (by omega)]; exact h
theorem s34_no {s : ByteArray} {i q : Nat} {m : Int} (hi : off s + q + 1 ≤ i) (hs : i < s.size) (hd : ∀ j, j < q → dg (fig s j)) (h4 : fig s q = 46) (h : ¬ dg (bt s i)) : ¬ AccS s m := fun h' => by
  rw [fig_at (by omega)] at h
  exact h ((Acc.behind h' hd (by omega) (by rw [h4]; exact not46)).2.2.1 (i - off s) (by omega) (by omega))
theorem s4_digit {s : ByteArray} {i q : Nat} (hq : 0 < q) (hi : off s + q + 1 < i) (hd : ∀ j, j < q → dg (fig s j)) (h4 : fig s q = 46) (h5 : ∀ j, q < j → off s + j < i → dg (fig s j)) (h : dg (bt s i)) :
    AS s (i + 1) 4 (((i - off s - q - 1 : Nat) : Int) + 1) := by
  refine .inr (.inr (.inr (.inr ⟨rfl, q, hq, by omega, hd, h4, fun j hj hl => ?_, by omega⟩)))
  by_cases e : off s + j = i
  · have : j = i - off s := by omega
    rw [this, ← fig_at (by omega)]; exact h
  · exact h5 j hj (by omega)

/-- What the state says at the end. -/
theorem end_low {s : ByteArray} {m : Int} (h : s.size ≤ off s) : ¬ AccS s m := fun h' => by
  have := (Acc.first h').1
  omega
theorem end2 {s : ByteArray} {m : Int} (hi : off s < s.size) (hd : ∀ j, off s + j < s.size → dg (fig s j)) : AccS s m := .inl ⟨by omega, fun j hj => hd j (by omega)⟩
theorem end3 {s : ByteArray} {q : Nat} {m : Int} (hi : off s + q + 1 = s.size) (hd : ∀ j, j < q → dg (fig s j)) (h4 : fig s q = 46) : ¬ AccS s m := fun h' => by
  have := (Acc.behind h' hd (by omega) (by rw [h4]; exact not46)).2.1
  omega
theorem end4 {s : ByteArray} {q : Nat} {m : Int} (hq : 0 < q) (hi : off s + q + 1 < s.size) (hd : ∀ j, j < q → dg (fig s j)) (h4 : fig s q = 46) (h5 : ∀ j, q < j → off s + j < s.size → dg (fig s j)) :
    AccS s m ↔ ((s.size - off s - q - 1 : Nat) : Int) ≤ m := by
  constructor
  · intro h'
    have := (Acc.behind h' hd (by omega) (by rw [h4]; exact not46)).2.2.2
    omega
  · intro h
    exact .inr ⟨q, hq, by omega, hd, h4, fun j hj hl => h5 j hj (by omega), by omega⟩

theorem dg_isD {s : ByteArray} {k : Nat} (h : k < s.size) : isD s[k] ↔ dg (bt s k) := by rw [bt_at h]; rfl

/-- The answer is whether s is of the language. -/
def Says (s : ByteArray) (m : Int) (e : Ending) : Prop := ∃ b : Bool, e = .returned (.bool b) ∧ (b = true ↔ AccS s m)
theorem says_no {s : ByteArray} {m : Int} {e : Ending} (h : ¬ AccS s m) (he : e = .returned (.bool false)) : Says s m e := ⟨false, he, ⟨fun h => by simp at h, fun g => absurd g h⟩⟩
theorem says_yes {s : ByteArray} {m : Int} {e : Ending} (h : AccS s m) (he : e = .returned (.bool true)) : Says s m e := ⟨true, he, ⟨fun _ => h, fun _ => rfl⟩⟩

set_option maxRecDepth 100000 in
set_option maxHeartbeats 3200000 in
theorem model_contract (s : ByteArray) (m : Int) (w : World) (hs : s.size ≤ 1048576) :
    Calls Try.prog 10 #[.string s, .int .i64 m] w fun e w' => Says s m e ∧ w' = w := by
  go_enter Try.func10, Try.ntmps10
  go_wp2_with fail
  go_loop [5, 6, 7] (fun st pl i => ∃ (k : Nat) (a p : Int), k ≤ s.size ∧ i = .int .i64 k ∧ st = .int .i64 a ∧ pl = .int .i64 p ∧ AS s k a p) (fun _ _ i => s.size - (intOf i).toNat)
  case atStart => exact ⟨0, 0, 0, Nat.zero_le _, rfl, rfl, rfl, AS.at0⟩
  case round =>
    obtain ⟨k, a, p, hk, rfl, rfl, rfl, hAS⟩ := hrel
    by_cases hlt : k < s.size
    · have HD := hid (dg_isD hlt)
      have HB := hid (bt_at hlt)
      rcases hAS with ⟨rfl, rfl⟩ | ⟨rfl, rfl, ho⟩ | ⟨rfl, hi, hd⟩ | ⟨rfl, q, hq, hi, hd, h4⟩ | ⟨rfl, q, hq, hi, hd, h4, h5, rfl⟩
      · by_cases c1 : bt s 0 = 45
        · have hb1 : ((s[0].toNat : Int) == 45) = true := by rw [← HB.out, c1]; rfl
          go_wp2
          go_round
          case rel => exact ⟨1, 1, p, by omega, by go_num, rfl, rfl, s0_minus c1⟩
          case measure => simp [intOf]; omega
        · have hb1 : ((s[0].toNat : Int) == 45) = false := by rw [← HB.out, beq_eq_false_iff_ne]; omega
          go_wp2_with fail
          refine (isDigit_contract s[0] w).mono ?_
          rintro e w1 ⟨rfl, hw⟩
          obtain rfl := hw.symm
          by_cases c2 : isD s[0]
          · rw [decide_eq_true c2]
            have C2 := hid (HD.out.1 c2)
            clear c2
            go_wp2
            go_round
            case rel => exact ⟨1, 2, p, by omega, by go_num, rfl, rfl, s0_digit C2.out⟩
            case measure => simp [intOf]; omega
          · rw [decide_eq_false c2]
            have C2 : Hid (¬ dg (bt s 0)) := fun h => c2 (HD.out.2 h)
            clear c2
            go_wp2
            go_ret
            exact ⟨says_no (s0_no c1 C2.out) rfl, rfl⟩
      · go_wp2_with fail
        refine (isDigit_contract s[1] w).mono ?_
        rintro e w1 ⟨rfl, hw⟩
        obtain rfl := hw.symm
        by_cases c2 : isD s[1]
        · rw [decide_eq_true c2]
          have C2 := hid (HD.out.1 c2)
          clear c2
          go_wp2
          go_round
          case rel => exact ⟨2, 2, p, by omega, by go_num, rfl, rfl, s1_digit ho C2.out⟩
          case measure => simp [intOf]; omega
        · rw [decide_eq_false c2]
          have C2 : Hid (¬ dg (bt s 1)) := fun h => c2 (HD.out.2 h)
          clear c2
          go_wp2
          go_ret
          exact ⟨says_no (s1_no ho C2.out) rfl, rfl⟩
      · have HH := hid hd
        clear hd
        by_cases c1 : bt s k = 46
        · have hb1 : ((s[k].toNat : Int) == 46) = true := by rw [← HB.out, c1]; rfl
          go_wp2
          go_round
          case rel => exact ⟨k + 1, 3, p, by omega, by go_num, rfl, rfl, s2_point hi HH.out c1⟩
          case measure => simp [intOf]; omega
        · have hb1 : ((s[k].toNat : Int) == 46) = false := by rw [← HB.out, beq_eq_false_iff_ne]; omega
          go_wp2_with fail
          refine (isDigit_contract s[k] w).mono ?_
          rintro e w1 ⟨rfl, hw⟩
          obtain rfl := hw.symm
          by_cases c2 : isD s[k]
          · rw [decide_eq_true c2]
            have C2 := hid (HD.out.1 c2)
            clear c2
            go_wp2
            go_round
            case rel => exact ⟨k + 1, 2, p, by omega, by go_num, rfl, rfl, s2_digit hi HH.out C2.out⟩
            case measure => simp [intOf]; omega
          · rw [decide_eq_false c2]
            have C2 : Hid (¬ dg (bt s k)) := fun h => c2 (HD.out.2 h)
            clear c2
            go_wp2
            go_ret
            exact ⟨says_no (s2_no hi hlt HH.out c1 C2.out) rfl, rfl⟩
      · have HH := hid hd
        have H4 := hid h4
        clear hd h4
        go_wp2_with fail
        refine (isDigit_contract s[k] w).mono ?_
        rintro e w1 ⟨rfl, hw⟩
        obtain rfl := hw.symm
        by_cases c2 : isD s[k]
        · rw [decide_eq_true c2]
          have C2 := hid (HD.out.1 c2)
          clear c2
          go_wp2
          go_round
          case rel => exact ⟨k + 1, 4, 1, by omega, by go_num, rfl, rfl, s3_digit hq hi HH.out H4.out C2.out⟩
          case measure => simp [intOf]; omega
        · rw [decide_eq_false c2]
          have C2 : Hid (¬ dg (bt s k)) := fun h => c2 (HD.out.2 h)
          clear c2
          go_wp2
          go_ret
          exact ⟨says_no (s34_no (by omega) hlt HH.out H4.out C2.out) rfl, rfl⟩
      · have HH := hid hd
        have H4 := hid h4
        have H5 := hid h5
        clear hd h4 h5
        obtain ⟨pp, hpp⟩ : ∃ pp : Nat, pp = k - off s - q - 1 := ⟨_, rfl⟩
        rw [← hpp]
        have HP := hid hpp
        have hppb : pp ≤ 1048576 := by omega
        clear hpp
        go_wp2_with fail
        refine (isDigit_contract s[k] w).mono ?_
        rintro e w1 ⟨rfl, hw⟩
        obtain rfl := hw.symm
        by_cases c2 : isD s[k]
        · rw [decide_eq_true c2]
          have C2 := hid (HD.out.1 c2)
          clear c2
          go_wp2
          go_round
          case rel => exact ⟨k + 1, 4, (pp : Int) + 1, by omega, by go_num, rfl, by go_num, by rw [HP.out]; exact s4_digit hq hi HH.out H4.out H5.out C2.out⟩
          case measure => simp [intOf]; omega
        · rw [decide_eq_false c2]
          have C2 : Hid (¬ dg (bt s k)) := fun h => c2 (HD.out.2 h)
          clear c2
          go_wp2
          go_ret
          exact ⟨says_no (s34_no (by omega) hlt HH.out H4.out C2.out) rfl, rfl⟩
    · have hke : s.size = k := by omega
      have hdk : decide (k < s.size) = false := decide_eq_false hlt
      rcases hAS with ⟨rfl, hk0⟩ | ⟨rfl, hk1, ho⟩ | ⟨rfl, hi, hd⟩ | ⟨rfl, q, hq, hi, hd, h4⟩ | ⟨rfl, q, hq, hi, hd, h4, h5, rfl⟩
      · have HE : Hid (¬ AccS s m) := end_low (by omega)
        go_wp2
        go_ret
        exact ⟨says_no HE.out rfl, rfl⟩
      · have HE : Hid (¬ AccS s m) := end_low (by omega)
        go_wp2
        go_ret
        exact ⟨says_no HE.out rfl, rfl⟩
      · have HE : Hid (AccS s m) := end2 (by omega) (fun j hj => hd j (by omega))
        clear hd
        go_wp2
        go_ret
        exact ⟨says_yes HE.out rfl, rfl⟩
      · have HE : Hid (¬ AccS s m) := end3 (by omega) hd h4
        clear hd h4
        go_wp2
        go_ret
        exact ⟨says_no HE.out rfl, rfl⟩
      · have HE : Hid (AccS s m ↔ ((k - off s - q - 1 : Nat) : Int) ≤ m) := by
          rw [← hke]
          exact end4 hq (by omega) hd h4 (fun j hj hl => h5 j hj (by omega))
        clear hd h4 h5
        obtain ⟨pp, hpp⟩ : ∃ pp : Nat, pp = k - off s - q - 1 := ⟨_, rfl⟩
        rw [← hpp] at HE ⊢
        clear hpp
        by_cases c : (pp : Int) ≤ m
        · have d1 : decide ((pp : Int) ≤ m) = true := decide_eq_true c
          go_wp2
          go_ret
          exact ⟨says_yes (HE.out.2 (by omega)) (by simp), rfl⟩
        · have d1 : decide ((pp : Int) ≤ m) = false := decide_eq_false c
          go_wp2
          go_ret
          exact ⟨says_no (fun h => absurd (HE.out.1 h) (by omega)) (by simp), rfl⟩
end Go.Proofs.Qxb6602046a
