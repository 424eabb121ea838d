import Derived.Test.Qxb6601772aTable2
namespace Go.Proofs.Qxb6601772a
open Go.ChangeShapes Go.WideShapes Go.ChangeAt Go.RowKit Go.Maps Go.Deep

/-- a new tree -/
def TreeAt (w : World) (A : Option Addr) (n c : Nat) (e : Ending) (w' : World) : Prop :=
  ∃ tb, e = .returned (.pointer (some ⟨tb, 0, none⟩)) ∧ w.heap.size ≤ tb ∧ tb < w'.heap.size ∧ w'.cell? ⟨tb, 0, none⟩ = some (.slice A n c) ∧ Below w.heap.size w w'

theorem tree19 (A : Option Addr) (n c : Nat) (w : World) :
    Calls Try.prog 19 #[.slice A n c] w (TreeAt w A n c) := by
  have HT : Hid (TreeAt w A n c (.returned (.pointer (some ⟨w.heap.size, 0, none⟩))) (w.alloc (.cells #[.slice A n c, .map none, .slice none 0 0, .slice none 0 0] 68))) :=
    ⟨_, rfl, Nat.le_refl _, by simp, by simp, (Below.refl _ _).alloc (Nat.le_refl _) _⟩
  go_enter Try.func19, Try.ntmps19
  go_wp2
  go_ret
  exact HT.out

theorem key22 (t : Int) (s : ByteArray) (w : World) :
    Calls Try.prog 22 #[.int .u64 t, .string s] w fun e w' => e = .returned (.agg #[.int .u64 t, .string s]) ∧ w' = w.alloc (.cells #[.int .u64 t, .string s] 61) := by
  go_enter Try.func22, Try.ntmps22
  go_wp2
  exact bodyPost_ret (v := .agg #[.int .u64 t, .string s]) (by simp [results, Try.results22, go_sem]) rfl ⟨rfl, rfl⟩

theorem table20_nil (A : Option Addr) (n c b off : Nat) (K T : Nat → Int) (S : Nat → ByteArray) (KL : Nat → Lit) (w : World) (hI : InAt w A n b off K T S) (hn : n ≤ 1048576)
    (hK : ∀ i, i < n → keyOf Try.prog 61 (keyVal (T i) (S i)) = some (KL i)) :
    Calls Try.prog 20 #[.slice A n c, .pointer none] w fun e w' => e = .returned (.pointer (some ⟨w.heap.size + 1 + 1 + 1 + 1, 0, none⟩)) ∧ LT w.heap.size w w' (.pointer none) (.slice none 0 0) (.map none) n (Dm K KL n) := by
  have H := hid (table24_nil A n c b off K T S KL w hI hn hK)
  clear hI hK
  go_enter Try.func20, Try.ntmps20
  go_wp2_with fail
  refine H.out.mono ?_
  rintro e w' ⟨rfl, hL⟩
  have HL := hid hL
  clear hL
  go_wp2
  go_ret
  exact ⟨rfl, HL.out⟩

/-- the whole table behind newLockTable, with a tree of m keys -/
def Whole (w w' : World) (tb m n : Nat) (D : DataW Unit) : Prop :=
  ∃ Z Q, LT w.heap.size w w' (.pointer (some ⟨tb, 0, none⟩)) (.slice (some ⟨Z, 0, none⟩) (2 * m) (2 * m)) (.map (some Q)) n D ∧ w'.rowIs Z 3 (2 * m) (szRow m 0) ∧ w'.heap[Q]? = some (.map #[] 0)

theorem table20_tree (A : Option Addr) (n c b off : Nat) (K T : Nat → Int) (S : Nat → ByteArray) (KL : Nat → Lit) (A2 : Option Addr) (m c2 tb : Nat) (w : World) (hI : InAt w A n b off K T S) (hn : n ≤ 1048576) (hm : m ≤ 65536)
    (hK : ∀ i, i < n → keyOf Try.prog 61 (keyVal (T i) (S i)) = some (KL i)) (htb : tb < w.heap.size) (htc : w.cell? ⟨tb, 0, none⟩ = some (.slice A2 m c2)) :
    Calls Try.prog 20 #[.slice A n c, .pointer (some ⟨tb, 0, none⟩)] w fun e w' => e = .returned (.pointer (some ⟨w.heap.size + 1 + 1 + 1 + 1, 0, none⟩)) ∧ Whole w w' tb m n (Dm K KL n) := by
  have H := hid (table24_tree A n c b off K T S KL A2 m c2 tb w hI hn hm hK htb htc)
  clear hI hK htc
  go_enter Try.func20, Try.ntmps20
  go_wp2_with fail
  refine H.out.mono ?_
  rintro e w' ⟨rfl, hL⟩
  have HL : Hid (Whole w w' tb m n (Dm K KL n)) := hL
  clear hL
  go_wp2
  go_ret
  exact ⟨rfl, HL.out⟩

theorem results_tmp8 {fn : Func} {t0 t1 t2 t3 t4 t5 t6 t7 : Tmp} (h : fn.results = #[.tmp t0, .tmp t1, .tmp t2, .tmp t3, .tmp t4, .tmp t5, .tmp t6, .tmp t7]) (tmps : Array Value) (P : Program) (w : World) :
    (results fn tmps).run P w = .ok (.tuple #[tmps.getD t0 undef, tmps.getD t1 undef, tmps.getD t2 undef, tmps.getD t3 undef, tmps.getD t4 undef, tmps.getD t5 undef, tmps.getD t6 undef, tmps.getD t7 undef]) w := by
  simp [results, h]

set_option maxHeartbeats 1600000 in
theorem fields21 (L : Nat) (v0 v1 v2 v3 v4 v5 v6 v7 : Value) (w : World) (h0 : w.cell? ⟨L, 0, none⟩ = some v0) (h1 : w.cell? ⟨L, 1, none⟩ = some v1) (h2 : w.cell? ⟨L, 2, none⟩ = some v2) (h3 : w.cell? ⟨L, 3, none⟩ = some v3)
    (h4 : w.cell? ⟨L, 4, none⟩ = some v4) (h5 : w.cell? ⟨L, 5, none⟩ = some v5) (h6 : w.cell? ⟨L, 6, none⟩ = some v6) (h7 : w.cell? ⟨L, 7, none⟩ = some v7) :
    Calls Try.prog 21 #[.pointer (some ⟨L, 0, none⟩)] w fun e w' => e = .returned (.tuple #[v0, v1, v2, v3, v4, v5, v6, v7]) ∧ ∃ m, w' = w.drewN m := by
  go_enter Try.func21, Try.ntmps21
  go_wp2
  go_quiet (fail)
  go_wp2
  refine bodyPost_ret (results_tmp8 rfl _ _ _) rfl ?_
  exact ⟨rfl, _, rfl⟩

theorem KeysAt.below {w w' : World} {B : Nat} {A : Option Addr} {n b off : Nat} {S : Nat → ByteArray} (h : KeysAt w A n b off S) (hb : Below B w w') (hB : 0 < n → b < B) (hw : B ≤ w.heap.size) : KeysAt w' A n b off S :=
  ⟨h.at0, fun i hi => (hb.cell (hB (by omega))).trans (h.item i hi), h.len, fun hn => Nat.lt_of_lt_of_le (Nat.lt_of_lt_of_le (hB hn) hw) hb.size, h.most⟩

theorem InAt.below {w w' : World} {B : Nat} {A : Option Addr} {n b off : Nat} {K T : Nat → Int} {S : Nat → ByteArray} (h : InAt w A n b off K T S) (hb : Below B w w') (hB : 0 < n → b < B) (hw : B ≤ w.heap.size) : InAt w' A n b off K T S :=
  ⟨h.at0, fun i hi => (hb.cell (hB (by omega))).trans (h.kind i hi), fun i hi => (hb.cell (hB (by omega))).trans (h.txn i hi), fun i hi => (hb.cell (hB (by omega))).trans (h.item i hi), h.len,
    fun hn => Nat.lt_of_lt_of_le (Nat.lt_of_lt_of_le (hB hn) hw) hb.size, h.most⟩

theorem LT.drewN {B : Nat} {w wr : World} {tree sz sp : Value} {n : Nat} {D : DataW Unit} (h : LT B w wr tree sz sp n D) (m : Nat) : LT B w (wr.drewN m) tree sz sp n D :=
  ⟨h.m0, h.m1, h.m2, h.own, h.box, ⟨h.below.os, h.below.tape, h.below.output, h.below.size, h.below.block⟩⟩

theorem LT.later {B : Nat} {w wr w' : World} {tree sz sp : Value} {n : Nat} {D : DataW Unit} (h : LT B w wr tree sz sp n D) (hb : Below wr.heap.size wr w') : LT B w w' tree sz sp n D where
  m0 := (hb.block _ (by have := h.lt; omega)).trans h.m0
  m1 := (hb.block _ (by have := h.lt; omega)).trans h.m1
  m2 := (hb.block _ (by have := h.lt; omega)).trans h.m2
  own := by
    have hl := h.own.lt
    obtain ⟨es, clock, hm, F, hs, hD⟩ := h.own
    exact ⟨es, clock, (hb.block _ hl).trans hm, F, hs, hD⟩
  box := (hb.block _ h.lt).trans h.box
  below := h.below.trans (hb.mono (by have := h.lt; omega))

/-- what the look-up of a step's own lock finds: the last step that unlocks it -/
theorem look_last {K T : Nat → Int} {S : Nat → ByteArray} {KL : Nat → Lit} {n p b : Nat} {w : World} (hKL : ∀ i, i < n → keyOf Try.prog 61 (keyVal (T i) (S i)) = some (KL i)) (hp : p < n) (h117 : K p = 117)
    (ho : w.ownsMap Try.prog 61 (plainElem Try.prog 3) b n (Dm K KL n)) :
    ∃ q, p ≤ q ∧ q < n ∧ q = last K KL n (KL p) ∧ K q = 117 ∧ T q = T p ∧ S q = S p ∧ (Instr.lookup 56 (.map (some b)) (.agg #[.int .u64 (T p), .string (S p)]) true).run Try.prog w = .ok (.tuple #[.int .i64 (q : Int), .bool true]) w := by
  have hkey : ∀ i, i < n → WideAt.IsKeyLit (KL i) := fun i hi => law61.key (hKL i hi)
  obtain ⟨hm, hge⟩ := last_ge hkey (Nat.le_refl n) hp h117
  have hlt := last_lt hm
  obtain ⟨h1, h2⟩ := last_same hkey (Nat.le_refl n) hm
  have hinj := key_inj (l := KL p) (by rw [← h2]; exact hKL _ hlt) (hKL p hp)
  obtain ⟨v, ps, hrun, hv⟩ := ho.look_ok law61 Try.underlying56 (zero3 w) (plainElem_int Try.underlying3 (by decide)) (hKL p hp)
  obtain ⟨c, rfl, hc, _⟩ := plainElem_int_inv Try.underlying3 hv
  have e1 := congrArg Prod.fst hc
  simp only [at_Dm hkey (KL p) _ n (Nat.le_refl n) hm] at e1
  injection e1 with e1
  injection e1 with _ e1
  refine ⟨last K KL n (KL p), hge, hlt, rfl, h1, hinj.1, hinj.2, ?_⟩
  rw [has_Dm hkey _ n (Nat.le_refl n), hm, ← e1] at hrun
  exact hrun

theorem cnt_le (K : Nat → Int) (KL : Nat → Lit) (P : Nat) : ∀ q, cnt K KL P q ≤ q
  | 0 => Nat.le_refl _
  | q + 1 => by
    have := cnt_le K KL P q
    unfold cnt
    split <;> omega

/-- len of a map that holds nothing -/
theorem run_len_empty {P : Program} {t k e : TypeId} {w : World} {b : Nat} (ht : P.underlying t = some (.map k e)) (hb : w.heap[b]? = some (.map #[] 0)) (ty : TypeId) :
    (Builtin.len_ #[t] ty #[.map (some b)]).run P w = .ok (.int .i64 0) w := by
  simp [Builtin.len_, run_underlying ht, MapKept.run_getObj_map hb, goInt, Result.andThen]
end Go.Proofs.Qxb6601772a
