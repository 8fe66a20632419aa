/-
  'Rows.FnFillsDoublingSaid': the guide's frame (the shell of a law over slices), turned to an int, a slice of strings, a string and a slice of rows of structs; the walk is Qxb6602809aModsLaw's.
-/
import Derived.Test.Qxb6602809aModsRows
import Derived.Test.Qxb6602809aModsLaw
import Derived.WalkKit
import Derived.ProofKit
import Derived.OpenShut
import Derived.ShutString
import Derived.ChangeOld
import Derived.Below
import Derived.SliceStrings
import Derived.Deep.Slices
import Derived.Lib.SmallJoins
namespace Go.Proofs.Qxb6602809aMods.fnFillsDoubling
open Go.ChangeShapes Go.WideShapes Go.ChangeAt Go.RowKit
open Go.ChangeMaps (open_string shut_string)
set_option linter.unusedVariables false

theorem own : ownKnob Trym.prog.godebug = none := by kernel_rfl
theorem laidOut : laidOutB Trym.prog = true := by kernel_rfl
theorem cells9 : Trym.prog.cellsOf 9 = 1 := by kernel_rfl
theorem cells4 : Trym.prog.cellsOf 4 = 1 := by kernel_rfl
theorem cells48 : Trym.prog.cellsOf 48 = 1 := by kernel_rfl
theorem cells53 : Trym.prog.cellsOf 53 = 4 := by kernel_rfl

section
variable {H : Type} {enc : TypeId × Value → H} {w : World} {base : Nat} {sp : Nat → Bool} {held : Bool} {n : Nat}

/-- An attribute, as the reader reads it: three strings and a bool. -/
theorem attr_view {cs : List Value} {x : DataW H × List MemPlace} (h : DataW.trod enc Trym.prog w base sp held n 53 cs = some x) :
    ∃ (t v y : ByteArray) (c : Bool), cs = [.string t, .string v, .string y, .bool c] := by
  obtain ⟨y0, y1, y2, y3, k, _, hl, h0, h1, h2, h3⟩ := Joins.trod_struct4 Trym.underlying53 h
  rw [cells53] at hl
  match cs, hl with
  | [c0, c1, c2, c3], _ =>
    simp only [cells9, cells4] at h0 h1 h2 h3
    obtain ⟨t, e0, _, _⟩ := DataW.trod_string Trym.underlying9 h0
    obtain ⟨v, e1, _, _⟩ := DataW.trod_string Trym.underlying9 h1
    obtain ⟨y, e2, _, _⟩ := DataW.trod_string Trym.underlying9 h2
    obtain ⟨c, e3, _⟩ := DataW.trod_bool Trym.underlying4 h3
    simp at e0 e1 e2 e3
    subst e0 e1 e2 e3
    exact ⟨t, v, y, c, rfl⟩

/-- A row of attributes. -/
theorem row_view {V : Value} {x : DataW H × List MemPlace} (h : DataW.trod enc Trym.prog w base sp held n 48 [V] = some x) :
    ∃ (ra : Option Addr) (m rc : Nat) (T : Nat → ByteArray), V = .slice ra m rc ∧ RowAt w ra m T := by
  rcases Deep.open_slice Trym.underlying48 h with ⟨e, _⟩ | ⟨a, len, cap, mm, k, D, Pl, e, _, hl, _, hmm, _, hx⟩
  · simp at e
    exact ⟨none, 0, 0, fun _ => ByteArray.empty, e, fun h => absurd rfl h⟩
  · simp at e
    have hlm : len ≤ mm := by rw [hmm]; split <;> omega
    by_cases hl0 : len = 0
    · exact ⟨some a, len, cap, fun _ => ByteArray.empty, e, fun h => absurd hl0 h⟩
    · obtain ⟨b, off, spot⟩ := a
      have hspot : spot = none := by
        obtain ⟨cs', h1, h2⟩ := hx 0 (by omega)
        obtain ⟨t, v, y, c, rfl⟩ := attr_view h2
        rw [cells53] at h1
        obtain ⟨_, _, hc⟩ := World.cells?_some h1
        simpa [Addr.add] using World.cell?_spot (hc 0 (by omega))
      subst hspot
      have hex : ∀ j, j < len → ∃ t, Attr w b (off + j * 4) t := by
        intro j hj
        obtain ⟨cs', h1, h2⟩ := hx j (by omega)
        obtain ⟨t, v, y, c, rfl⟩ := attr_view h2
        rw [cells53, add_plain] at h1
        obtain ⟨_, _, hc⟩ := World.cells?_some h1
        refine ⟨t, ?_, v, y, c, ?_, ?_, ?_⟩
        · have := hc 0 (by omega); rw [add_plain] at this; simpa using this
        · have := hc 1 (by omega); rw [add_plain] at this; simpa using this
        · have := hc 2 (by omega); rw [add_plain] at this; simpa using this
        · have := hc 3 (by omega); rw [add_plain] at this; simpa using this
      obtain ⟨T, hT⟩ := Deep.choose_lt (α := ByteArray) (p := fun j t => Attr w b (off + j * 4) t) hex
      exact ⟨some ⟨b, off, none⟩, len, cap, T, e, fun h0 => ⟨b, off, rfl, hT⟩⟩

/-- A subject. -/
theorem subj_view {a : Option Addr} {len cap : Nat} {x : DataW H × List MemPlace} (h : DataW.trod enc Trym.prog w base sp held n 41 [.slice a len cap] = some x) :
    ∃ (m : Nat → Nat) (T : Nat → Nat → ByteArray), Subj w a len m T ∧ (a = none → len = 0 ∧ cap = 0) ∧ len ≤ maxLen := by
  rcases Deep.open_slice1 Trym.underlying41 cells48 h with ⟨e, _⟩ | ⟨a', len', cap', mm, k, V, D, Pl, e, _, hl, hm, hmm, _, hx⟩
  · simp at e
    obtain ⟨rfl, rfl, rfl⟩ := e
    exact ⟨fun _ => 0, fun _ _ => ByteArray.empty, fun h => absurd rfl h, fun _ => ⟨rfl, rfl⟩, Nat.zero_le _⟩
  · simp at e
    obtain ⟨rfl, rfl, rfl⟩ := e
    have hlm : len ≤ mm := by rw [hmm]; split <;> omega
    have hex : ∀ i, i < len → ∃ q : Nat × (Nat → ByteArray), ∃ ra rc, V i = .slice ra q.1 rc ∧ RowAt w ra q.1 q.2 := fun i hi => by
      obtain ⟨ra, m, rc, T, e1, e2⟩ := row_view (hx i (by omega)).2
      exact ⟨(m, T), ra, rc, e1, e2⟩
    obtain ⟨Q, hQ⟩ := Deep.choose_lt (α := Nat × (Nat → ByteArray)) (p := fun i q => ∃ ra rc, V i = .slice ra q.1 rc ∧ RowAt w ra q.1 q.2) hex
    refine ⟨fun i => (Q i).1, fun i => (Q i).2, fun h0 => ?_, (fun e => by cases e), by omega⟩
    obtain ⟨b, off, spot⟩ := a'
    have hspot : spot = none := by simpa [Addr.add] using World.cell?_spot (hx 0 (by omega)).1
    subst hspot
    refine ⟨b, off, rfl, fun i hi => ?_⟩
    obtain ⟨ra, rc, e1, e2⟩ := hQ i hi
    refine ⟨ra, rc, ?_, e2⟩
    have := (hx i (by omega)).1
    rw [add_plain] at this
    rw [this, e1]

/-- A slice of strings. -/
theorem strs_view {a : Option Addr} {len cap : Nat} {x : DataW H × List MemPlace} (h : DataW.trod enc Trym.prog w base sp held n 33 [.slice a len cap] = some x) : Strs w a len ∧ len ≤ maxLen := by
  rcases open_strings Trym.underlying33 Trym.underlying9 cells9 h with ⟨e, _⟩ | ⟨a', len', cap', ss, e, _, hl, hm, hz, _, hcell, _⟩
  · simp at e
    obtain ⟨rfl, rfl, rfl⟩ := e
    exact ⟨fun h => absurd rfl h, Nat.zero_le _⟩
  · simp at e
    obtain ⟨rfl, rfl, rfl⟩ := e
    have hlz : len ≤ ss.length := by rw [hz]; split <;> omega
    refine ⟨fun h0 => ?_, by omega⟩
    obtain ⟨b, off, spot⟩ := a'
    have hspot : spot = none := by simpa [Addr.add] using World.cell?_spot (hcell 0 (by omega))
    subst hspot
    exact ⟨b, off, rfl, fun i hi => ⟨_, by rw [← add_plain]; exact hcell i (by omega)⟩⟩
end

/-! ### THE ROW's STEP -/
set_option maxRecDepth 100000 in
theorem lifted (os : Os) (started : os.Started) (H : Type) (enc : TypeId × Value → H) :
    ReturnsInHanded {} Trym.checked os 7 .any (Rows.fnFillsDoublingSpec.pre6 enc Trym.prog Trym.f7 Rows.fnFillsDoublingRow.domain false) (Rows.fnFillsDoublingSpec.post enc Trym.prog Trym.f7 false true false false) := by
  refine returnsInHanded_of_change (C := Trym.checked) own started (by kernel_rfl) Trym.func7
    (ChangeSpec.witness6 (enc := enc) (C := Trym.checked) false ⟨#[], #[.int .i64 0, .slice none 0 0, .string ByteArray.empty, .slice none 0 0], []⟩ 8 (by kernel_rfl) (by kernel_rfl) (by kernel_rfl) (by kernel_rfl)) ?_
  intro W base args ds gs before hval0 hW hcnd _
  have hval : ∀ (j : Nat) t v, Trym.f7.params[j]? = some t → args[j]? = some v → Value.okWide Trym.prog W .any base t v := hval0
  have hW' := hW
  obtain ⟨p, q, hA0, hV, rfl, hfz, hnd⟩ := hW
  have hA : DataW.TrodAll enc Trym.prog W 0 (fun _ => true) true Trym.f7.params.toList args.toList ds p := hA0
  rw [Trym.params7] at hA hval
  obtain ⟨v0, vs0, d0, ds0, p0, q0, hargs, rfl, rfl, h0, r0⟩ := trodAll_cons hA
  obtain ⟨v1, vs1, d1, ds1, p1, q1, rfl, rfl, rfl, h1, r1⟩ := trodAll_cons r0
  obtain ⟨v2, vs2, d2, ds2, p2, q2, rfl, rfl, rfl, h2, r2⟩ := trodAll_cons r1
  obtain ⟨v3, vs3, d3, ds3, p3, q3, rfl, rfl, rfl, h3, r3⟩ := trodAll_cons r2
  obtain ⟨rfl, rfl, rfl⟩ := trodAll_nil r3
  obtain rfl : args = #[v0, v1, v2, v3] := by cases args; simp_all
  obtain ⟨rfl, rfl⟩ := trodVars_none hV
  obtain ⟨a0, rfl, rfl, rfl, w0⟩ := open_int Trym.underlying3 (hval 0 3 v0 rfl rfl) h0
  obtain ⟨a1, len1, cap1, rfl⟩ := okWide_slice Trym.underlying33 (hval 1 33 v1 rfl rfl)
  have k1 := h1
  have lt1 : ∀ x ∈ p1, x.block < W.heap.size := by obtain ⟨m, hm⟩ := k1; exact DataW.trod_lt m _ _ _ hm
  obtain ⟨s1, m1⟩ : Strs W a1 len1 ∧ len1 ≤ maxLen := by
    obtain ⟨fuel, hf⟩ := h1
    exact strs_view (by simpa [Value.cells] using hf)
  obtain ⟨a2, rfl, rfl, rfl, w2⟩ := open_string Trym.underlying9 (hval 2 9 v2 rfl rfl) h2
  obtain ⟨a3, len3, cap3, rfl⟩ := okWide_slice Trym.underlying41 (hval 3 41 v3 rfl rfl)
  have k3 := h3
  have lt3 : ∀ x ∈ p3, x.block < W.heap.size := by obtain ⟨m, hm⟩ := k3; exact DataW.trod_lt m _ _ _ hm
  obtain ⟨m, T, s3, n3, m3⟩ : ∃ (m : Nat → Nat) (T : Nat → Nat → ByteArray), Subj W a3 len3 m T ∧ (a3 = none → len3 = 0 ∧ cap3 = 0) ∧ len3 ≤ maxLen := by
    obtain ⟨fuel, hf⟩ := h3
    exact subj_view (by simpa [Value.cells] using hf)
  clear hA0 hval0
  refine (walk7_main a0 a1 len1 cap1 a2 a3 len3 cap3 m T W s1 s3 n3 m1 m3 w2).mono fun e W' ⟨he, bel⟩ => ?_
  subst he
  exact ⟨_, rfl, _, _, _, [], _, [], hW', trodAll_mk1 (shut_bool Trym.underlying4 _), (trodAll_cons_mk (shut_int Trym.underlying3 w0) (trodAll_cons_mk (Below.trod laidOut (by kernel_rfl) (of_decide_eq_true (by kernel_rfl)) k1 bel lt1) (trodAll_cons_mk (shut_string Trym.underlying9 w2) (trodAll_cons_mk (Below.trod laidOut (by kernel_rfl) (of_decide_eq_true (by kernel_rfl)) k3 bel lt3) trodAll_mk0)))), rfl, bel.frame _, fun h => by cases h⟩

theorem over : Rows.fnFillsDoublingRow.holds Trym.pinned (OpenSpec.ofChange Rows.fnFillsDoublingSpec) :=
  OpenClaim.holds_of_wide 7 Trym.f7 rfl rfl rfl rfl rfl rfl rfl ⟨rfl, rfl, rfl, rfl, rfl⟩ rfl rfl rfl rfl rfl (by kernel_rfl) Trym.func7 (by kernel_rfl)
    (of_decide_eq_true (by kernel_rfl)) (by unfold Func.isWrapper; first | (rw [if_pos (by decide +kernel)]; kernel_rfl) | (rw [if_neg (by decide +kernel)]; exact ⟨rfl, rfl⟩))
    (fun os started H enc _ => lifted os started H enc)

/-- ████ THE STATEMENT ████ -/
theorem proved : Rows.FnFillsDoublingSaid := over
#print axioms proved
end Go.Proofs.Qxb6602809aMods.fnFillsDoubling
