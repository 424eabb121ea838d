import Derived.Test.Qxb6601799aPlain
import Derived.Test.Qxb6601799aReads
import Derived.Test.Qxb6601799aLinkR
import Derived.Test.Qxb6601799aLinkW
namespace Go.Proofs.Qxb6601799a
open Go.ChangeShapes Go.WideShapes Go.ChangeAt Go.RowKit

/-- The graph and the key hold what the plain state says. -/
def LMS (B : Nat) (w0 w : World) (GB wb kb n : Nat) (s : St) : Prop := ∃ V RV, LM B w0 w GB wb kb n V RV s.lw s.rd s.out

set_option maxRecDepth 100000 in
theorem zlink_contract {B : Nat} {w0 w : World} {GB wb kb n : Nat} {s : St} (h : LMS B w0 w GB wb kb n s) (t : Int) (ht0 : 0 ≤ t) (hlw : -1 ≤ s.lw) (hlwn : s.lw < n)
    (hb : ∀ u, u < n → (s.out u).length + s.rd.length + 1 ≤ 1073741824) (hr : s.rd.length ≤ 1073741824) (hrd : ∀ r ∈ s.rd, 0 ≤ r ∧ r < n) (pos line key val : Int) (wr hv : Bool) :
    Calls Try.prog 9 #[.pointer (some ⟨wb, 0, none⟩), .pointer (some ⟨kb, 0, none⟩), .int .i64 pos, .int .i64 line, .int .i32 t, .int .i32 key, .bool wr, .int .i64 val, .bool hv] w fun e w' => (∃ v, e = .returned v) ∧
      LMS B w0 w' GB wb kb n (s.step t wr) ∧ Kept w w' := by
  obtain ⟨V, RV, h⟩ := h
  have hc : Calls Try.prog 17 #[.pointer (some ⟨wb, 0, none⟩), .pointer (some ⟨kb, 0, none⟩), .agg (opv pos line t key wr val hv)] w fun e w' => (∃ v, e = .returned v) ∧ LMS B w0 w' GB wb kb n (s.step t wr) ∧ Kept w w' := by
    cases wr with
    | false =>
      refine (link_read h t ht0 hlw hlwn (fun u hu => by have := hb u hu; omega) hr pos line key val hv).mono ?_
      rintro e w' ⟨he, V', RV', h1, h2⟩
      exact ⟨he, ⟨V', RV', h1⟩, h2⟩
    | true =>
      refine (link_write h t ht0 hlw hlwn hb hr hrd pos line key val hv).mono ?_
      rintro e w' ⟨he, V', RV', h1, h2⟩
      exact ⟨he, ⟨V', RV', h1⟩, h2⟩
  have hc' := hid hc
  clear hc h
  unfold opv at hc'
  go_enter Try.func9, Try.ntmps9
  go_wp2_with fail
  refine hc'.out.mono ?_
  rintro e w1 ⟨⟨v, rfl⟩, h1, h2⟩
  have H1 := hid h1
  have H2 := hid h2
  clear h1 h2
  go_wp2
  refine ⟨rfl, _, results_none rfl _ _ _, ⟨_, rfl⟩, H1.out, H2.out⟩
end Go.Proofs.Qxb6601799a
