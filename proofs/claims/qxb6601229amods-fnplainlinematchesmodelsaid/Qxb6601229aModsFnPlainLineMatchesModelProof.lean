/-
  'Rows.FnPlainLineMatchesModelSaid': the frame is the given tool's; the contracts are Qxb6601229aModsPlZ's and Qxb6601229aModsPlM's.
-/
import Derived.Test.Qxb6601229aModsRows
import Derived.Test.Qxb6601229aModsPlZ
import Derived.WalkKit
import Derived.ProofKit
import Derived.OpenShut
import Derived.ShutString
import Derived.ChangeOld
import Derived.Below
namespace Go.Proofs.Qxb6601229aMods.fnPlainLineMatchesModel
open Go.ChangeShapes Go.WideShapes Go.ChangeAt Go.RowKit
open Go.ChangeMaps (open_string shut_string)
set_option linter.unusedVariables false

theorem own : ownKnob Trym.prog.godebug = none := by kernel_rfl
theorem laidOut : laidOutB Trym.prog = true := by kernel_rfl

/-- WHAT THE WALK IS TOLD OF A SLICE OF INTEGERS THAT CAME IN: it is nil; or it leads to a row of 'cap' cells, the numbers 'zs' (the first 'len' are its elements, the rest its spare room), each fitting its kind. -/
def IsRow (k : IntKind) (w : World) (a : Option Addr) (len cap : Nat) (zs : List Int) : Prop :=
  (a = none ∧ len = 0 ∧ cap = 0 ∧ zs = []) ∨
  ∃ x, a = some x ∧ len ≤ cap ∧ cap ≤ maxLen ∧ zs.length = cap ∧ (∀ i, i < zs.length → w.cell? (x.add i) = some (.int k (zs.getD i 0))) ∧ ∀ n ∈ zs, (Lit.int k n).wf = true

theorem zzb14_yes (a : Option Addr) (n c : Nat) (pos : Int) (u : Bool) (w : World) (h : n ≤ 1048576) :
    Calls Trym.prog 14 #[.slice a n c, .int .i64 pos, .bool u] w fun e w' => e = .returned (.bool true) ∧ w' = w := by
  go_enter Trym.func14, Trym.ntmps14
  go_wp2
  go_ret
  exact ⟨rfl, rfl⟩

theorem zzb14_no (a : Option Addr) (n c : Nat) (pos : Int) (u : Bool) (w : World) (h : 1048576 < n) :
    Calls Trym.prog 14 #[.slice a n c, .int .i64 pos, .bool u] w fun e w' => e = .returned (.bool false) ∧ w' = w := by
  go_enter Trym.func14, Trym.ntmps14
  go_wp2
  go_ret
  exact ⟨rfl, rfl⟩

theorem isEnd_zero (flow : Bool) : IsEnd (fun _ => 0) 0 0 flow 0 0 :=
  ⟨Nat.le_refl _, Nat.le_refl _, Nat.le_refl _, fun j _ h => by omega, fun h => by omega, fun j _ h => by omega, fun h => by omega⟩

theorem clone_nil' (w : World) : Calls Trym.prog 9 #[.slice none 0 0] w fun e w' => e = .returned (.slice none 0 0) ∧ Below w.heap.size w w' :=
  (clone_nil w).mono fun e w' ⟨h1, h2⟩ => ⟨h1, by rw [h2]; exact Below.refl _ _⟩

theorem walk_nil (flow : Bool) (w : World) :
    Calls Trym.prog 5 #[.slice none 0 0, .int .i64 0, .bool flow] w fun e w' => e = .returned (.bool true) ∧ Below w.heap.size w w' := by
  go_enter Trym.func5, Trym.ntmps5
  go_wp2_with fail
  refine (zzb14_yes _ _ _ _ _ _ (by omega)).mono ?_
  rintro r w' ⟨rfl, hw'⟩
  obtain rfl := hw'.symm
  go_wp2_with fail
  refine (clone_nil' w).mono ?_
  rintro r w1 ⟨rfl, hb⟩
  go_wp2_with fail
  refine (zzpl_any 0 0 0 0 _ (fun _ => 0) flow w1 ⟨.inl rfl, fun _ => by simp⟩ (fun h => absurd rfl h) (by omega) (fun _ h => by omega) (isEnd_zero flow)).mono ?_
  rintro r w2 ⟨rfl, hb2⟩
  go_wp2_with fail
  refine (pmodel_any _ 0 0 0 0 (fun _ => 0) flow w2 ⟨.inl rfl, fun _ => by simp⟩ (by omega) (isEnd_zero flow)).mono ?_
  rintro r w' ⟨rfl, hw'⟩
  obtain rfl := hw'.symm
  go_wp2
  go_ret
  exact ⟨by simp, hb.trans (hb2.mono hb.size)⟩

theorem walk_empty (x : Addr) (cap : Nat) (flow : Bool) (w : World) :
    Calls Trym.prog 5 #[.slice (some x) 0 cap, .int .i64 0, .bool flow] w fun e w' => e = .returned (.bool true) ∧ Below w.heap.size w w' := by
  go_enter Trym.func5, Trym.ntmps5
  go_wp2_with fail
  refine (zzb14_yes _ _ _ _ _ _ (by omega)).mono ?_
  rintro r w' ⟨rfl, hw'⟩
  obtain rfl := hw'.symm
  go_wp2_with fail
  refine (clone_empty x cap w).mono ?_
  rintro r w1 ⟨rfl, hb⟩
  go_wp2_with fail
  refine (zzpl_any 0 0 0 0 _ (fun _ => 0) flow w1 ⟨.inl rfl, fun _ => by simp⟩ (fun h => absurd rfl h) (by omega) (fun _ h => by omega) (isEnd_zero flow)).mono ?_
  rintro r w2 ⟨rfl, hb2⟩
  go_wp2_with fail
  refine (pmodel_any _ 0 0 0 0 (fun _ => 0) flow w2 ⟨.inl rfl, fun _ => by simp⟩ (by omega) (isEnd_zero flow)).mono ?_
  rintro r w' ⟨rfl, hw'⟩
  obtain rfl := hw'.symm
  go_wp2
  go_ret
  exact ⟨by simp, hb.trans (hb2.mono hb.size)⟩

set_option maxHeartbeats 1000000 in
theorem walk_main (a : Option Addr) (n cap : Nat) (zs : List Int) (start : Nat) (flow : Bool) (w : World) (h1 : n ≤ 1048576) (hsn : start ≤ n) (w0 : IsRow .u8 w a n cap zs) (h3 : 0 < start) :
    Calls Trym.prog 5 #[.slice a n cap, .int .i64 start, .bool flow] w fun e w' => e = .returned (.bool true) ∧ Below w.heap.size w w' := by
  have HCL : Hid _ := clone_any a n cap zs w h1 w0
  obtain ⟨q, e, hE⟩ := end_exists (fun i => zs.getD i 0) n start flow hsn
  have HE : Hid _ := hE
  clear hE
  clear w0
  have H35 : Hid (start = 0 → 0 < n → ¬ (fun i => zs.getD i 0) 0 = 35) := fun h _ => by omega
  go_enter Trym.func5, Trym.ntmps5
  go_wp2_with fail
  refine (zzb14_yes _ _ _ _ _ _ h1).mono ?_
  rintro r w' ⟨rfl, hw'⟩
  obtain rfl := hw'.symm
  go_wp2_with fail
  refine Calls.mono HCL.out ?_
  rintro r w1 ⟨a', rfl, hB, hrow, hb⟩
  have HB : Hid _ := hB
  have HP : Hid (n ≠ 0 → ∀ b, a' = some ⟨b, 0, none⟩ → b < w1.heap.size) := by
    intro h0 b hb'
    obtain ⟨e1, e2⟩ := hrow h0
    rw [e1] at hb'
    obtain rfl : w.heap.size = b := by simp at hb'; exact hb'
    exact e2.lt
  clear hB hrow HCL
  go_wp2_with fail
  refine (zzpl_any n _ q e a' _ flow w1 HB.out HP.out (by omega) H35.out HE.out).mono ?_
  rintro r w2 ⟨rfl, hb2⟩
  have HB2 : Hid (Bytes w2 a' n (fun i => zs.getD i 0)) := by
    refine ⟨?_, HB.out.2⟩
    rcases HB.out.1 with h | ⟨b, h, hc⟩
    · exact .inl h
    · by_cases h0 : n = 0
      · exact .inl h0
      · exact .inr ⟨b, h, fun i hi => (hb2.cell (HP.out h0 b h)).trans (hc i hi)⟩
  go_wp2_with fail
  refine (pmodel_any a' n _ q e _ flow w2 HB2.out (by omega) HE.out).mono ?_
  rintro r w' ⟨rfl, hw'⟩
  obtain rfl := hw'.symm
  go_wp2
  go_ret
  exact ⟨by simp, hb.trans (hb2.mono hb.size)⟩

set_option maxHeartbeats 1000000 in
theorem walk_zero (b off n cap : Nat) (zs : List Int) (flow : Bool) (w : World) (h1 : n ≤ 1048576) (h0 : 0 < n) (w0 : IsRow .u8 w (some ⟨b, off, none⟩) n cap zs) (hc0 : w.cell? ⟨b, off, none⟩ = some (.int .u8 (zs.getD 0 0))) :
    Calls Trym.prog 5 #[.slice (some ⟨b, off, none⟩) n cap, .int .i64 0, .bool flow] w fun e w' => e = .returned (.bool true) ∧ Below w.heap.size w w' := by
  by_cases h35 : zs.getD 0 0 = 35
  · clear w0
    rw [h35] at hc0
    clear h35
    go_enter Trym.func5, Trym.ntmps5
    go_wp2_with fail
    refine (zzb14_yes _ _ _ _ _ _ h1).mono ?_
    rintro r w' ⟨rfl, hw'⟩
    obtain rfl := hw'.symm
    go_wp2
    go_ret
    exact ⟨rfl, Below.refl _ _⟩
  · have hsn : 0 ≤ n := by omega
    have HCL : Hid _ := clone_any (some ⟨b, off, none⟩) n cap zs w h1 w0
    obtain ⟨q, e, hE⟩ := end_exists (fun i => zs.getD i 0) n 0 flow hsn
    have HE : Hid _ := hE
    clear hE
    clear w0
    have H35 : Hid (¬ zs.getD 0 0 = 35) := h35
    obtain ⟨c, hcc⟩ : ∃ c, c = zs.getD 0 0 := ⟨_, rfl⟩
    rw [← hcc] at hc0 h35
    have hne : (c == 35) = false := by simpa using h35
    clear hcc h35
    go_enter Trym.func5, Trym.ntmps5
    go_wp2_with fail
    refine (zzb14_yes _ _ _ _ _ _ h1).mono ?_
    rintro r w' ⟨rfl, hw'⟩
    obtain rfl := hw'.symm
    go_wp2_with fail
    refine Calls.mono HCL.out ?_
    rintro r w1 ⟨a', rfl, hB, hrow, hb⟩
    have HB : Hid _ := hB
    have HP : Hid (n ≠ 0 → ∀ b, a' = some ⟨b, 0, none⟩ → b < w1.heap.size) := by
      intro h0 b hb'
      obtain ⟨e1, e2⟩ := hrow h0
      rw [e1] at hb'
      obtain rfl : w.heap.size = b := by simp at hb'; exact hb'
      exact e2.lt
    clear hB hrow HCL
    go_wp2_with fail
    refine (zzpl_any n 0 q e a' _ flow w1 HB.out HP.out (by omega) (fun _ _ => H35.out) HE.out).mono ?_
    rintro r w2 ⟨rfl, hb2⟩
    have HB2 : Hid (Bytes w2 a' n (fun i => zs.getD i 0)) := by
      refine ⟨?_, HB.out.2⟩
      rcases HB.out.1 with h | ⟨b, h, hc⟩
      · exact .inl h
      · by_cases h0 : n = 0
        · exact .inl h0
        · exact .inr ⟨b, h, fun i hi => (hb2.cell (HP.out h0 b h)).trans (hc i hi)⟩
    go_wp2_with fail
    refine (pmodel_any a' n 0 q e _ flow w2 HB2.out (by omega) HE.out).mono ?_
    rintro r w' ⟨rfl, hw'⟩
    obtain rfl := hw'.symm
    go_wp2
    go_ret
    exact ⟨by simp, hb.trans (hb2.mono hb.size)⟩

/-! ### STEP 1: THE WALK: the Go text returns true, AND WRITES NOTHING THAT WAS THERE: 'Below w.heap.size w w'' (Derived/Below.lean: '.refl', '.alloc', '.drew', '.setCell' at a new block, '.trans'). Open each 'IsRow' by 'rcases' AHEAD of 'go_enter'; part every test ahead of the walk. -/
theorem walk (a0 : Option Addr) (len0 cap0 : Nat) (z0 : List Int) (a1 : Int) (a2 : Bool) (w : World) (w0 : IsRow .u8 w a0 len0 cap0 z0) (w1 : (Lit.int .i64 a1).wf = true) :
    Calls Trym.prog 5 #[.slice a0 len0 cap0, .int .i64 a1, .bool a2] w fun e w' => e = .returned (.bool true) ∧ Below w.heap.size w w' := by
  have hb1 := bounds_i64 w1
  by_cases h1 : len0 ≤ 1048576
  · by_cases h2 : 0 ≤ a1 ∧ a1 ≤ len0
    · obtain ⟨start, rfl⟩ : ∃ start : Nat, a1 = start := ⟨a1.toNat, by omega⟩
      have hsn : start ≤ len0 := by omega
      by_cases h3 : start = 0 ∧ 0 < len0
      · obtain ⟨rfl, h0⟩ := h3
        have w0' := w0
        rcases w0' with ⟨rfl, rfl, _, _⟩ | ⟨x, rfl, hl, hm, hz, hc, hw⟩
        · omega
        · obtain ⟨b, off, spot⟩ := x
          have hspot : spot = none := by simpa [Addr.add] using World.cell?_spot (hc 0 (by omega))
          subst hspot
          exact walk_zero b off len0 cap0 z0 a2 w h1 h0 w0 (by have := hc 0 (by omega); rw [add_plain] at this; simpa using this)
      · by_cases hs : start = 0
        · subst hs
          obtain rfl : len0 = 0 := by omega
          rcases w0 with ⟨rfl, _, rfl, _⟩ | ⟨x, rfl, _⟩
          · exact walk_nil a2 w
          · exact walk_empty x cap0 a2 w
        · exact walk_main a0 len0 cap0 z0 start a2 w h1 hsn w0 (by omega)
    · clear w0
      have h2' : a1 < 0 ∨ (len0 : Int) < a1 := by omega
      clear h2
      rcases h2' with h2 | h2
      all_goals
        go_enter Trym.func5, Trym.ntmps5
        go_wp2_with fail
        refine (zzb14_yes _ _ _ _ _ _ h1).mono ?_
        rintro r w' ⟨rfl, hw'⟩
        obtain rfl := hw'.symm
        go_wp2
        go_ret
        exact ⟨rfl, Below.refl _ _⟩
  · clear w0
    go_enter Trym.func5, Trym.ntmps5
    go_wp2_with fail
    refine (zzb14_no _ _ _ _ _ _ (by omega)).mono ?_
    rintro e w' ⟨rfl, hw'⟩
    obtain rfl := hw'.symm
    go_wp2
    go_ret
    exact ⟨rfl, Below.refl _ _⟩

/-! ### THE ROW's STEP: WRITTEN OUT: LEAVE IT -/
set_option maxRecDepth 100000 in
theorem lifted (os : Os) (started : os.Started) (H : Type) (enc : TypeId × Value → H) :
    ReturnsInHanded {} Trym.checked os 5 .any (Rows.fnPlainLineMatchesModelSpec.pre6 enc Trym.prog Trym.f5 Rows.fnPlainLineMatchesModelRow.domain false) (Rows.fnPlainLineMatchesModelSpec.post enc Trym.prog Trym.f5 false true false false) := by
  refine returnsInHanded_of_change (C := Trym.checked) own started (by kernel_rfl) Trym.func5
    (ChangeSpec.witness6 (enc := enc) (C := Trym.checked) false ⟨#[], #[.slice none 0 0, .int .i64 0, .bool false], []⟩ 8 (by kernel_rfl) (by kernel_rfl) (by kernel_rfl) (by kernel_rfl)) ?_
  intro W base args ds gs before hval0 hW hcnd _
  have hval : ∀ (j : Nat) t v, Trym.f5.params[j]? = some t → args[j]? = some v → Value.okWide Trym.prog W .any base t v := hval0
  have hW' := hW
  obtain ⟨p, q, hA0, hV, rfl, hfz, hnd⟩ := hW
  have hA : DataW.TrodAll enc Trym.prog W 0 (fun _ => true) true Trym.f5.params.toList args.toList ds p := hA0
  rw [Trym.params5] at hA hval
  obtain ⟨v0, vs0, d0, ds0, p0, q0, hargs, rfl, rfl, h0, r0⟩ := trodAll_cons hA
  obtain ⟨v1, vs1, d1, ds1, p1, q1, rfl, rfl, rfl, h1, r1⟩ := trodAll_cons r0
  obtain ⟨v2, vs2, d2, ds2, p2, q2, rfl, rfl, rfl, h2, r2⟩ := trodAll_cons r1
  obtain ⟨rfl, rfl, rfl⟩ := trodAll_nil r2
  obtain rfl : args = #[v0, v1, v2] := by cases args; simp_all
  obtain ⟨rfl, rfl⟩ := trodVars_none hV
  obtain ⟨a0, len0, cap0, rfl⟩ := okWide_slice Trym.underlying22 (hval 0 22 v0 rfl rfl)
  have k0 := h0
  have lt0 : ∀ x ∈ p0, x.block < W.heap.size := by obtain ⟨m, hm⟩ := k0; exact DataW.trod_lt m _ _ _ hm
  obtain ⟨z0, w0⟩ : ∃ zs, IsRow .u8 W a0 len0 cap0 zs := by
    obtain ⟨fuel, hf⟩ := h0
    rcases open_ints Trym.underlying22 Trym.underlying5 (by kernel_rfl) hf with ⟨hcs, _⟩ | ⟨x, l, c, zs, hcs, _, hl, hm, hz, _, hcell, hwz⟩
    · simp [Value.cells] at hcs
      obtain ⟨rfl, rfl, rfl⟩ := hcs
      exact ⟨[], .inl ⟨rfl, rfl, rfl, rfl⟩⟩
    · simp [Value.cells] at hcs
      obtain ⟨rfl, rfl, rfl⟩ := hcs
      exact ⟨zs, .inr ⟨_, rfl, hl, hm, by simpa using hz, hcell, hwz⟩⟩
  obtain ⟨a1, rfl, rfl, rfl, w1⟩ := open_int Trym.underlying3 (hval 1 3 v1 rfl rfl) h1
  obtain ⟨a2, rfl, rfl, rfl⟩ := open_bool Trym.underlying4 (hval 2 4 v2 rfl rfl) h2
  clear hA0 hval0
  refine (walk a0 len0 cap0 z0 a1 a2 W w0 w1).mono fun e W' ⟨he, bel⟩ => ?_
  subst he
  exact ⟨_, rfl, _, _, _, [], _, [], hW', trodAll_mk1 (shut_bool Trym.underlying4 _), (trodAll_cons_mk (Below.trod laidOut (by kernel_rfl) (of_decide_eq_true (by kernel_rfl)) k0 bel lt0) (trodAll_cons_mk (shut_int Trym.underlying3 w1) (trodAll_cons_mk (shut_bool Trym.underlying4 _) trodAll_mk0))), rfl, bel.frame _, fun h => by cases h⟩

theorem over : Rows.fnPlainLineMatchesModelRow.holds Trym.pinned (OpenSpec.ofChange Rows.fnPlainLineMatchesModelSpec) :=
  OpenClaim.holds_of_wide 5 Trym.f5 rfl rfl rfl rfl rfl rfl rfl ⟨rfl, rfl, rfl, rfl, rfl⟩ rfl rfl rfl rfl rfl (by kernel_rfl) Trym.func5 (by kernel_rfl)
    (of_decide_eq_true (by kernel_rfl)) (by unfold Func.isWrapper; first | (rw [if_pos (by decide +kernel)]; kernel_rfl) | (rw [if_neg (by decide +kernel)]; exact ⟨rfl, rfl⟩))
    (fun os started H enc _ => lifted os started H enc)

/-- ████ THE STATEMENT ████ -/
theorem proved : Rows.FnPlainLineMatchesModelSaid := over
#print axioms proved
end Go.Proofs.Qxb6601229aMods.fnPlainLineMatchesModel
