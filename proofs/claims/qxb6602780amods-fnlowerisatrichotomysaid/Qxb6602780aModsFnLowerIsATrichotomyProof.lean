/-
  'Rows.FnLowerIsATrichotomySaid': the guide's frame (the shell of a law over slices), turned to two arrays of three ints by value; the walk is Qxb6602780aModsTri's.
-/
import Derived.Test.Qxb6602780aModsRows
import Derived.Test.Qxb6602780aModsTri
import Derived.WalkKit
import Derived.ProofKit
import Derived.OpenShut
import Derived.ShutString
import Derived.ChangeOld
import Derived.Below
import Derived.Lib.SmallJoins
namespace Go.Proofs.Qxb6602780aMods.fnLowerIsATrichotomy
open Go.ChangeShapes Go.WideShapes Go.ChangeAt Go.RowKit
set_option linter.unusedVariables false

theorem own : ownKnob Trym.prog.godebug = none := by kernel_rfl
theorem laidOut : laidOutB Trym.prog = true := by kernel_rfl
theorem cells22 : Trym.prog.cellsOf 22 = 3 := by kernel_rfl
theorem cells3 : Trym.prog.cellsOf 3 = 1 := by kernel_rfl

/-- An array of three ints that came in by value: three numbers. -/
theorem open_three {H : Type} {enc : TypeId × Value → H} {W : World} {base : Nat} {sp : Nat → Bool} {held : Bool} {v : Value} {d : DataW H} {p : List MemPlace} (hv : Value.okWide Trym.prog W .any base 22 v) (h : DataW.Trod enc Trym.prog W 0 sp held 22 v d p) :
    ∃ a0 a1 a2 : Int, v = .agg #[.int .i64 a0, .int .i64 a1, .int .i64 a2] := by
  have hcs : ∃ cs, v = .agg cs ∧ cs.size = Trym.prog.cellsOf 22 := by
    simp only [Value.okWide, Trym.underlying22] at hv
    obtain ⟨cs, h1, h2, _⟩ := hv
    exact ⟨cs, h1, h2⟩
  obtain ⟨cs, rfl, hsz⟩ := hcs
  rw [cells22] at hsz
  obtain ⟨c0, c1, c2, rfl⟩ := Joins.array3 hsz
  obtain ⟨fuel, hf⟩ := h
  obtain ⟨y0, y1, y2, n, _, t0, t1, t2⟩ := trod_array3 Trym.underlying22 cells3 (by simpa [Value.cells] using hf)
  obtain ⟨a0, e0, _, _⟩ := DataW.trod_int Trym.underlying3 t0
  obtain ⟨a1, e1, _, _⟩ := DataW.trod_int Trym.underlying3 t1
  obtain ⟨a2, e2, _, _⟩ := DataW.trod_int Trym.underlying3 t2
  simp at e0 e1 e2
  subst e0 e1 e2
  exact ⟨a0, a1, a2, rfl⟩

/-! ### THE ROW's STEP -/
set_option maxRecDepth 100000 in
theorem lifted (os : Os) (started : os.Started) (H : Type) (enc : TypeId × Value → H) :
    ReturnsInHanded {} Trym.checked os 3 .any (Rows.fnLowerIsATrichotomySpec.pre6 enc Trym.prog Trym.f3 Rows.fnLowerIsATrichotomyRow.domain false) (Rows.fnLowerIsATrichotomySpec.post enc Trym.prog Trym.f3 false true false false) := by
  refine returnsInHanded_of_change (C := Trym.checked) own started (by kernel_rfl) Trym.func3
    (ChangeSpec.witness6 (enc := enc) (C := Trym.checked) false ⟨#[], #[.agg #[.int .i64 0, .int .i64 0, .int .i64 0], .agg #[.int .i64 0, .int .i64 0, .int .i64 0]], []⟩ 8 (by kernel_rfl) (by kernel_rfl) (by kernel_rfl) (by kernel_rfl)) ?_
  intro W base args ds gs before hval0 hW hcnd _
  have hval : ∀ (j : Nat) t v, Trym.f3.params[j]? = some t → args[j]? = some v → Value.okWide Trym.prog W .any base t v := hval0
  have hW' := hW
  obtain ⟨p, q, hA0, hV, rfl, hfz, hnd⟩ := hW
  have hA : DataW.TrodAll enc Trym.prog W 0 (fun _ => true) true Trym.f3.params.toList args.toList ds p := hA0
  rw [Trym.params3] at hA hval
  obtain ⟨v0, vs0, d0, ds0, p0, q0, hargs, rfl, rfl, h0, r0⟩ := trodAll_cons hA
  obtain ⟨v1, vs1, d1, ds1, p1, q1, rfl, rfl, rfl, h1, r1⟩ := trodAll_cons r0
  obtain ⟨rfl, rfl, rfl⟩ := trodAll_nil r1
  obtain rfl : args = #[v0, v1] := by cases args; simp_all
  obtain ⟨rfl, rfl⟩ := trodVars_none hV
  have lt0 : ∀ x ∈ p0, x.block < W.heap.size := by obtain ⟨m, hm⟩ := h0; exact DataW.trod_lt m _ _ _ hm
  have lt1 : ∀ x ∈ p1, x.block < W.heap.size := by obtain ⟨m, hm⟩ := h1; exact DataW.trod_lt m _ _ _ hm
  obtain ⟨a0, a1, a2, rfl⟩ := open_three (hval 0 22 v0 rfl rfl) h0
  obtain ⟨b0, b1, b2, rfl⟩ := open_three (hval 1 22 v1 rfl rfl) h1
  clear hA0 hval0
  refine (walk3 a0 a1 a2 b0 b1 b2 W).mono fun e W' ⟨he, bel⟩ => ?_
  subst he
  exact ⟨_, rfl, _, _, _, [], _, [], hW', trodAll_mk1 (shut_bool Trym.underlying4 _), (trodAll_cons_mk (Below.trod laidOut (by kernel_rfl) (of_decide_eq_true (by kernel_rfl)) h0 bel lt0) (trodAll_cons_mk (Below.trod laidOut (by kernel_rfl) (of_decide_eq_true (by kernel_rfl)) h1 bel lt1) trodAll_mk0)), rfl, bel.frame _, fun h => by cases h⟩

theorem over : Rows.fnLowerIsATrichotomyRow.holds Trym.pinned (OpenSpec.ofChange Rows.fnLowerIsATrichotomySpec) :=
  OpenClaim.holds_of_wide 3 Trym.f3 rfl rfl rfl rfl rfl rfl rfl ⟨rfl, rfl, rfl, rfl, rfl⟩ rfl rfl rfl rfl rfl (by kernel_rfl) Trym.func3 (by kernel_rfl)
    (of_decide_eq_true (by kernel_rfl)) (by unfold Func.isWrapper; first | (rw [if_pos (by decide +kernel)]; kernel_rfl) | (rw [if_neg (by decide +kernel)]; exact ⟨rfl, rfl⟩))
    (fun os started H enc _ => lifted os started H enc)

/-- ████ THE STATEMENT ████ -/
theorem proved : Rows.FnLowerIsATrichotomySaid := over
#print axioms proved
end Go.Proofs.Qxb6602780aMods.fnLowerIsATrichotomy
