import Derived.Test.Qxb6601772aLaw5
import Derived.Test.Qxb6601772aOpen
import Derived.OpenShut
import Derived.ChangeOld
import Derived.Below
namespace Go.Proofs.Qxb6601772a.fnNewLockTableWhole
open Go.ChangeShapes Go.WideShapes Go.ChangeAt Go.RowKit Go.Deep

theorem own : ownKnob Try.prog.godebug = none := by kernel_rfl

theorem keys_of {K T : Nat → Int} {S : Nat → ByteArray} {W : World} {A : Option Addr} {n b off : Nat} (hI : InAt W A n b off K T S) (hT : ∀ i, i < n → (Lit.int .u64 (T i)).wf = true) :
    ∃ KL : Nat → Lit, ∀ i, i < n → keyOf Try.prog 61 (keyVal (T i) (S i)) = some (KL i) := by
  have each : ∀ i, ∃ l : Lit, i < n → keyOf Try.prog 61 (keyVal (T i) (S i)) = some l := fun i => by
    by_cases h : i < n
    · obtain ⟨l, hl⟩ := key_reads (T i) (S i) (hT i h) (hI.len i h)
      exact ⟨l, fun _ => hl⟩
    · exact ⟨.bool false, fun g => absurd g h⟩
  exact ⟨fun i => Classical.choose (each i), fun i hi => Classical.choose_spec (each i) hi⟩

set_option maxRecDepth 100000 in
theorem lifted (os : Os) (started : os.Started) (H : Type) (enc : TypeId × Value → H) :
    ReturnsInHanded {} Try.checked os 5 .any (Rows.fnNewLockTableWholeSpec.pre6 enc Try.prog Try.f5 Rows.fnNewLockTableWholeRow.domain false) (Rows.fnNewLockTableWholeSpec.post enc Try.prog Try.f5 false true false false) := by
  refine returnsInHanded_of_change (C := Try.checked) own started (by kernel_rfl) Try.func5
    (ChangeSpec.witness6 (enc := enc) (C := Try.checked) false ⟨#[], #[.slice none 0 0, .bool false, .slice none 0 0], []⟩ 8 (by kernel_rfl) (by kernel_rfl) (by kernel_rfl) (by kernel_rfl)) ?_
  intro W base args ds gs before hval0 hW hcnd _
  have hval : ∀ (j : Nat) t v, Try.f5.params[j]? = some t → args[j]? = some v → Value.okWide Try.prog W .any base t v := hval0
  have hW' := hW
  obtain ⟨p, q, hA0, hV, rfl, hfz, hnd⟩ := hW
  have hA : DataW.TrodAll enc Try.prog W 0 (fun _ => true) true Try.f5.params.toList args.toList ds p := hA0
  rw [Try.params5] at hA hval
  obtain ⟨v0, vs0, d0, ds0, p0, q0, hargs, rfl, rfl, h0, r0⟩ := trodAll_cons hA
  obtain ⟨v1, vs1, d1, ds1, p1, q1, rfl, rfl, rfl, h1, r1⟩ := trodAll_cons r0
  obtain ⟨v2, vs2, d2, ds2, p2, q2, rfl, rfl, rfl, h2, r2⟩ := trodAll_cons r1
  obtain ⟨rfl, rfl, rfl⟩ := trodAll_nil r2
  obtain rfl : args = #[v0, v1, v2] := by cases args; simp_all
  obtain ⟨rfl, rfl⟩ := trodVars_none hV
  obtain ⟨a0, len0, cap0, rfl⟩ := okWide_slice Try.underlying37 (hval 0 37 v0 rfl rfl)
  have k0 := h0
  have lt0 : ∀ x ∈ p0, x.block < W.heap.size := by obtain ⟨m, hm⟩ := k0; exact DataW.trod_lt m _ _ _ hm
  obtain ⟨b, off, K, T, S, hI, hT⟩ : ∃ b off K T S, InAt W a0 len0 b off K T S ∧ ∀ i, i < len0 → (Lit.int .u64 (T i)).wf = true := by
    obtain ⟨fuel, hf⟩ := h0
    exact open_in hf
  obtain ⟨ht, rfl, rfl, rfl⟩ := open_bool Try.underlying4 (hval 1 4 v1 rfl rfl) h1
  obtain ⟨a2, len2, cap2, rfl⟩ := okWide_slice Try.underlying38 (hval 2 38 v2 rfl rfl)
  have k2 := h2
  have lt2 : ∀ x ∈ p2, x.block < W.heap.size := by obtain ⟨m, hm⟩ := k2; exact DataW.trod_lt m _ _ _ hm
  obtain ⟨b2, off2, S2, hK, hnil⟩ : ∃ b off S, KeysAt W a2 len2 b off S ∧ (a2 = none → len2 = 0) := by
    obtain ⟨fuel, hf⟩ := h2
    exact open_keys hf
  obtain ⟨KL, hKL⟩ := keys_of hI hT
  clear hA0 hval0
  refine (law5 a0 a2 len0 cap0 b off len2 cap2 b2 off2 ht K T S S2 KL W hI hK hnil hKL).mono fun e W' ⟨he, bel⟩ => ?_
  subst he
  exact ⟨_, rfl, _, _, _, [], _, [], hW', trodAll_mk1 (shut_bool Try.underlying4 _), (trodAll_cons_mk (Below.trod laidOut (by kernel_rfl) (of_decide_eq_true (by kernel_rfl)) k0 bel lt0) (trodAll_cons_mk (shut_bool Try.underlying4 _) (trodAll_cons_mk (Below.trod laidOut (by kernel_rfl) (of_decide_eq_true (by kernel_rfl)) k2 bel lt2) trodAll_mk0))), rfl, bel.frame _, fun h => by cases h⟩

theorem over : Rows.fnNewLockTableWholeRow.holds Try.pinned (OpenSpec.ofChange Rows.fnNewLockTableWholeSpec) :=
  OpenClaim.holds_of_wide 5 Try.f5 rfl rfl rfl rfl rfl rfl rfl ⟨rfl, rfl, rfl, rfl, rfl⟩ rfl rfl rfl rfl rfl (by kernel_rfl) Try.func5 (by kernel_rfl)
    (of_decide_eq_true (by kernel_rfl)) (by unfold Func.isWrapper; first | (rw [if_pos (by decide +kernel)]; kernel_rfl) | (rw [if_neg (by decide +kernel)]; exact ⟨rfl, rfl⟩))
    (fun os started H enc _ => lifted os started H enc)

/-- THE STATEMENT -/
theorem proved : Rows.FnNewLockTableWholeSaid := over
end Go.Proofs.Qxb6601772a.fnNewLockTableWhole
