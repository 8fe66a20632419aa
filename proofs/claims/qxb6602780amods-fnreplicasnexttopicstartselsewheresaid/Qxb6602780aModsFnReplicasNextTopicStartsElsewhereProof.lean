/-
  'Rows.FnReplicasNextTopicStartsElsewhereSaid': the frame is the given tool's; the walk is Qxb6602780aModsLaw's.
-/
import Derived.Test.Qxb6602780aModsRows
import Derived.Test.Qxb6602780aModsLaw
import Derived.WalkKit
import Derived.ProofKit
import Derived.OpenShut
import Derived.ShutString
import Derived.ChangeOld
import Derived.Below
namespace Go.Proofs.Qxb6602780aMods.fnReplicasNextTopicStartsElsewhere
open Go.ChangeShapes Go.WideShapes Go.ChangeAt Go.RowKit
open Go.ChangeMaps (open_string shut_string)
set_option linter.unusedVariables false

theorem own : ownKnob Trym.prog.godebug = none := by kernel_rfl
theorem laidOut : laidOutB Trym.prog = true := by kernel_rfl

/-- WHAT THE WALK IS TOLD OF A SLICE OF INTEGERS THAT CAME IN: it is nil; or it leads to a row of 'cap' cells, the numbers 'zs' (the first 'len' are its elements, the rest its spare room), each fitting its kind. -/
def IsRow (k : IntKind) (w : World) (a : Option Addr) (len cap : Nat) (zs : List Int) : Prop :=
  (a = none ∧ len = 0 ∧ cap = 0 ∧ zs = []) ∨
  ∃ x, a = some x ∧ len ≤ cap ∧ cap ≤ maxLen ∧ zs.length = cap ∧ (∀ i, i < zs.length → w.cell? (x.add i) = some (.int k (zs.getD i 0))) ∧ ∀ n ∈ zs, (Lit.int k n).wf = true

theorem view {k : IntKind} {w : World} {a : Option Addr} {n cap : Nat} {zs : List Int} (h : IsRow k w a n cap zs) : View k w a n (fun i => zs.getD i 0) ∧ n ≤ maxLen := by
  rcases h with ⟨rfl, rfl, rfl, rfl⟩ | ⟨x, rfl, hl, hm, hz, hc, hw⟩
  · exact ⟨fun h => absurd rfl h, Nat.zero_le _⟩
  · refine ⟨fun h0 => ?_, Nat.le_trans hl hm⟩
    obtain ⟨b, off, spot⟩ := x
    have hspot : spot = none := by simpa [Addr.add] using World.cell?_spot (hc 0 (by omega))
    subst hspot
    exact ⟨b, off, rfl, fun i hi => by rw [← add_plain]; exact hc i (by omega)⟩

theorem dom_cut {n : Nat} {p r : Int} {Z : Nat → Int} (h : Dom n n n p r Z) : Dom n n n p r (fun i => if i < n then Z i else 0) := by
  obtain ⟨a, b, c, d, e, f, g, l⟩ := h
  exact ⟨a, b, c, d, e, f, g, fun i hi => by simpa [hi] using l i hi⟩

theorem leads_cut {n : Nat} {Z : Nat → Int} (h : LeadsOk Z n) : ∀ i, 0 ≤ (if i < n then Z i else 0) ∧ (if i < n then Z i else 0) ≤ 1073741824 := by
  intro i
  by_cases hi : i < n
  · simpa [hi] using h i hi
  · simp [hi]

/-! ### STEP 1: THE WALK: the Go text returns true, AND WRITES NOTHING THAT WAS THERE: 'Below w.heap.size w w'' (Derived/Below.lean: '.refl', '.alloc', '.drew', '.setCell' at a new block, '.trans'). Open each 'IsRow' by 'rcases' AHEAD of 'go_enter'; part every test ahead of the walk. -/
set_option maxHeartbeats 2000000 in
set_option maxRecDepth 20000 in
theorem walk (a0 : Option Addr) (len0 cap0 : Nat) (z0 : List Int) (a1 : Option Addr) (len1 cap1 : Nat) (z1 : List Int) (a2 : Option Addr) (len2 cap2 : Nat) (z2 : List Int) (a3 : Int) (a4 : Int) (a5 : Int) (a6 : Int) (a7 : Int) (w : World) (w0 : IsRow .i32 w a0 len0 cap0 z0) (w1 : IsRow .i64 w a1 len1 cap1 z1) (w2 : IsRow .i64 w a2 len2 cap2 z2) (w3 : (Lit.int .i64 a3).wf = true) (w4 : (Lit.int .i64 a4).wf = true) (w5 : (Lit.int .i64 a5).wf = true) (w6 : (Lit.int .i64 a6).wf = true) (w7 : (Lit.int .i64 a7).wf = true) :
    Calls Trym.prog 9 #[.slice a0 len0 cap0, .slice a1 len1 cap1, .slice a2 len2 cap2, .int .i64 a3, .int .i64 a4, .int .i64 a5, .int .i64 a6, .int .i64 a7] w fun e w' => e = .returned (.bool true) ∧ Below w.heap.size w w' := by
  obtain ⟨v0, m0⟩ := view w0
  obtain ⟨v1, m1⟩ := view w1
  obtain ⟨v2, m2⟩ := view w2
  have V0 : Hid (View .i32 w a0 len0 (fun i => z0.getD i 0)) := v0
  have V1 : Hid (View .i64 w a1 len1 (fun i => z1.getD i 0)) := v1
  have V2 : Hid (View .i64 w a2 len2 (fun i => z2.getD i 0)) := v2
  clear v0 v1 v2 w0 w1 w2
  by_cases ht : len0 + len1 + len2 ≤ 1048576
  · by_cases h0 : len0 ≤ 4096
    · by_cases h1 : len1 ≤ 4096
      · by_cases h2 : len2 ≤ 4096
        · by_cases g0 : 2 ≤ len0
          · by_cases g1 : 1 ≤ a5
            · by_cases g2 : 1 ≤ a6
              · by_cases d1 : Dom len0 len1 len2 a5 a7 (fun i => z1.getD i 0)
                · have D1 : Hid (Dom len0 len1 len2 a5 a7 (fun i => z1.getD i 0)) := d1
                  clear d1
                  by_cases d2 : Dom len0 len1 len2 a6 a7 (fun i => z1.getD i 0)
                  · have D2 : Hid (Dom len0 len1 len2 a6 a7 (fun i => z1.getD i 0)) := d2
                    clear d2
                    by_cases hi : Incr (fun i => z0.getD i 0) len0
                    · obtain ⟨e1, e2, p0, pm, r1, rn, _, lo⟩ := D1.out
                      obtain ⟨_, _, q0, qm, _, _, _, _⟩ := D2.out
                      subst e1 e2
                      obtain ⟨c0, o0, rfl, k0⟩ := V0.out (by omega)
                      obtain ⟨c1, o1, rfl, k1⟩ := V1.out (by omega)
                      obtain ⟨c2, o2, rfl, k2⟩ := V2.out (by omega)
                      obtain ⟨P1, rfl⟩ : ∃ P1 : Nat, a5 = P1 := ⟨a5.toNat, by omega⟩
                      obtain ⟨P2, rfl⟩ : ∃ P2 : Nat, a6 = P2 := ⟨a6.toNat, by omega⟩
                      obtain ⟨R, rfl⟩ : ∃ R : Nat, a7 = R := ⟨a7.toNat, by omega⟩
                      exact walk9_main c0 o0 c1 o1 c2 o2 _ cap0 cap1 cap2 P1 P2 R a3 a4 _ (fun i => if i < _ then z1.getD i 0 else 0) _ w g0 h0 (by omega) (by omega) k0 (fun i hi => by rw [k1 i hi]; simp [hi]) k2 (dom_cut D1.out) (dom_cut D2.out) hi (leads_cut lo)
                    · have HI : Hid (¬ Incr (fun i => z0.getD i 0) len0) := hi
                      clear hi
                      obtain ⟨c0, o0, rfl, k0⟩ := V0.out (by omega)
                      have K0 : Hid (∀ i, i < len0 → w.cell? ⟨c0, o0 + i, none⟩ = some (.int .i32 (z0.getD i 0))) := k0
                      clear k0 V0
                      go_enter Trym.func9, Trym.ntmps9
                      go_wp2_with fail
                      refine (zzb26_yes _ _ _ _ _ _ _ _ _ _ _ _ _ _ _ ht).mono ?_
                      rintro e w' ⟨rfl, hw'⟩
                      obtain rfl := hw'.symm
                      go_wp2_with fail
                      refine (dom_any _ _ _ len0 len1 len2 _ _ _ a5 a7 (fun i => z1.getD i 0) true w (by omega) (by omega) V1.out ⟨fun _ => D1.out, fun _ => rfl⟩).mono ?_
                      rintro e w' ⟨rfl, hw'⟩
                      obtain rfl := hw'.symm
                      go_wp2_with fail
                      refine (dom_any _ _ _ len0 len1 len2 _ _ _ a6 a7 (fun i => z1.getD i 0) true w (by omega) (by omega) V1.out ⟨fun _ => D2.out, fun _ => rfl⟩).mono ?_
                      rintro e w' ⟨rfl, hw'⟩
                      obtain rfl := hw'.symm
                      go_wp2_with fail
                      refine (incr_any c0 o0 len0 _ (fun i => z0.getD i 0) false w (by omega) (by omega) K0.out ⟨fun h => absurd h (by decide), fun h => absurd h HI.out⟩).mono ?_
                      rintro e w' ⟨rfl, nq, rfl⟩
                      go_wp2
                      go_ret
                      exact ⟨rfl, below_drewN (Below.refl _ _) _⟩
                  · have D2 : Hid (¬ Dom len0 len1 len2 a6 a7 (fun i => z1.getD i 0)) := d2
                    clear d2
                    go_enter Trym.func9, Trym.ntmps9
                    go_wp2_with fail
                    refine (zzb26_yes _ _ _ _ _ _ _ _ _ _ _ _ _ _ _ ht).mono ?_
                    rintro e w' ⟨rfl, hw'⟩
                    obtain rfl := hw'.symm
                    go_wp2_with fail
                    refine (dom_any _ _ _ len0 len1 len2 _ _ _ a5 a7 (fun i => z1.getD i 0) true w (by omega) (by omega) V1.out ⟨fun _ => D1.out, fun _ => rfl⟩).mono ?_
                    rintro e w' ⟨rfl, hw'⟩
                    obtain rfl := hw'.symm
                    go_wp2_with fail
                    refine (dom_any _ _ _ len0 len1 len2 _ _ _ a6 a7 (fun i => z1.getD i 0) false w (by omega) (by omega) V1.out ⟨fun h => absurd h (by decide), fun h => absurd h D2.out⟩).mono ?_
                    rintro e w' ⟨rfl, hw'⟩
                    obtain rfl := hw'.symm
                    go_wp2
                    go_ret
                    exact ⟨rfl, Below.refl _ _⟩
                · have D1 : Hid (¬ Dom len0 len1 len2 a5 a7 (fun i => z1.getD i 0)) := d1
                  clear d1
                  go_enter Trym.func9, Trym.ntmps9
                  go_wp2_with fail
                  refine (zzb26_yes _ _ _ _ _ _ _ _ _ _ _ _ _ _ _ ht).mono ?_
                  rintro e w' ⟨rfl, hw'⟩
                  obtain rfl := hw'.symm
                  go_wp2_with fail
                  refine (dom_any _ _ _ len0 len1 len2 _ _ _ a5 a7 (fun i => z1.getD i 0) false w (by omega) (by omega) V1.out ⟨fun h => absurd h (by decide), fun h => absurd h D1.out⟩).mono ?_
                  rintro e w' ⟨rfl, hw'⟩
                  obtain rfl := hw'.symm
                  go_wp2
                  go_ret
                  exact ⟨rfl, Below.refl _ _⟩
              · go_enter Trym.func9, Trym.ntmps9
                go_wp2_with fail
                refine (zzb26_yes _ _ _ _ _ _ _ _ _ _ _ _ _ _ _ ht).mono ?_
                rintro e w' ⟨rfl, hw'⟩
                obtain rfl := hw'.symm
                go_wp2
                go_ret
                exact ⟨rfl, Below.refl _ _⟩
            · go_enter Trym.func9, Trym.ntmps9
              go_wp2_with fail
              refine (zzb26_yes _ _ _ _ _ _ _ _ _ _ _ _ _ _ _ ht).mono ?_
              rintro e w' ⟨rfl, hw'⟩
              obtain rfl := hw'.symm
              go_wp2
              go_ret
              exact ⟨rfl, Below.refl _ _⟩
          · go_enter Trym.func9, Trym.ntmps9
            go_wp2_with fail
            refine (zzb26_yes _ _ _ _ _ _ _ _ _ _ _ _ _ _ _ ht).mono ?_
            rintro e w' ⟨rfl, hw'⟩
            obtain rfl := hw'.symm
            go_wp2
            go_ret
            exact ⟨rfl, Below.refl _ _⟩
        · go_enter Trym.func9, Trym.ntmps9
          go_wp2_with fail
          refine (zzb26_yes _ _ _ _ _ _ _ _ _ _ _ _ _ _ _ ht).mono ?_
          rintro e w' ⟨rfl, hw'⟩
          obtain rfl := hw'.symm
          go_wp2
          go_ret
          exact ⟨rfl, Below.refl _ _⟩
      · go_enter Trym.func9, Trym.ntmps9
        go_wp2_with fail
        refine (zzb26_yes _ _ _ _ _ _ _ _ _ _ _ _ _ _ _ ht).mono ?_
        rintro e w' ⟨rfl, hw'⟩
        obtain rfl := hw'.symm
        go_wp2
        go_ret
        exact ⟨rfl, Below.refl _ _⟩
    · go_enter Trym.func9, Trym.ntmps9
      go_wp2_with fail
      refine (zzb26_yes _ _ _ _ _ _ _ _ _ _ _ _ _ _ _ ht).mono ?_
      rintro e w' ⟨rfl, hw'⟩
      obtain rfl := hw'.symm
      go_wp2
      go_ret
      exact ⟨rfl, Below.refl _ _⟩
  · go_enter Trym.func9, Trym.ntmps9
    go_wp2_with fail
    refine (zzb26_no _ _ _ _ _ _ _ _ _ _ _ _ _ _ _ (by omega) m0 m1 m2).mono ?_
    rintro e w' ⟨rfl, hw'⟩
    obtain rfl := hw'.symm
    go_wp2
    go_ret
    exact ⟨rfl, Below.refl _ _⟩

/-! ### THE ROW's STEP: WRITTEN OUT: LEAVE IT -/
set_option maxRecDepth 100000 in
theorem lifted (os : Os) (started : os.Started) (H : Type) (enc : TypeId × Value → H) :
    ReturnsInHanded {} Trym.checked os 9 .any (Rows.fnReplicasNextTopicStartsElsewhereSpec.pre6 enc Trym.prog Trym.f9 Rows.fnReplicasNextTopicStartsElsewhereRow.domain false) (Rows.fnReplicasNextTopicStartsElsewhereSpec.post enc Trym.prog Trym.f9 false true false false) := by
  refine returnsInHanded_of_change (C := Trym.checked) own started (by kernel_rfl) Trym.func9
    (ChangeSpec.witness6 (enc := enc) (C := Trym.checked) false ⟨#[], #[.slice none 0 0, .slice none 0 0, .slice none 0 0, .int .i64 0, .int .i64 0, .int .i64 0, .int .i64 0, .int .i64 0], []⟩ 8 (by kernel_rfl) (by kernel_rfl) (by kernel_rfl) (by kernel_rfl)) ?_
  intro W base args ds gs before hval0 hW hcnd _
  have hval : ∀ (j : Nat) t v, Trym.f9.params[j]? = some t → args[j]? = some v → Value.okWide Trym.prog W .any base t v := hval0
  have hW' := hW
  obtain ⟨p, q, hA0, hV, rfl, hfz, hnd⟩ := hW
  have hA : DataW.TrodAll enc Trym.prog W 0 (fun _ => true) true Trym.f9.params.toList args.toList ds p := hA0
  rw [Trym.params9] at hA hval
  obtain ⟨v0, vs0, d0, ds0, p0, q0, hargs, rfl, rfl, h0, r0⟩ := trodAll_cons hA
  obtain ⟨v1, vs1, d1, ds1, p1, q1, rfl, rfl, rfl, h1, r1⟩ := trodAll_cons r0
  obtain ⟨v2, vs2, d2, ds2, p2, q2, rfl, rfl, rfl, h2, r2⟩ := trodAll_cons r1
  obtain ⟨v3, vs3, d3, ds3, p3, q3, rfl, rfl, rfl, h3, r3⟩ := trodAll_cons r2
  obtain ⟨v4, vs4, d4, ds4, p4, q4, rfl, rfl, rfl, h4, r4⟩ := trodAll_cons r3
  obtain ⟨v5, vs5, d5, ds5, p5, q5, rfl, rfl, rfl, h5, r5⟩ := trodAll_cons r4
  obtain ⟨v6, vs6, d6, ds6, p6, q6, rfl, rfl, rfl, h6, r6⟩ := trodAll_cons r5
  obtain ⟨v7, vs7, d7, ds7, p7, q7, rfl, rfl, rfl, h7, r7⟩ := trodAll_cons r6
  obtain ⟨rfl, rfl, rfl⟩ := trodAll_nil r7
  obtain rfl : args = #[v0, v1, v2, v3, v4, v5, v6, v7] := by cases args; simp_all
  obtain ⟨rfl, rfl⟩ := trodVars_none hV
  obtain ⟨a0, len0, cap0, rfl⟩ := okWide_slice Trym.underlying25 (hval 0 25 v0 rfl rfl)
  have k0 := h0
  have lt0 : ∀ x ∈ p0, x.block < W.heap.size := by obtain ⟨m, hm⟩ := k0; exact DataW.trod_lt m _ _ _ hm
  obtain ⟨z0, w0⟩ : ∃ zs, IsRow .i32 W a0 len0 cap0 zs := by
    obtain ⟨fuel, hf⟩ := h0
    rcases open_ints Trym.underlying25 Trym.underlying21 (by kernel_rfl) hf with ⟨hcs, _⟩ | ⟨x, l, c, zs, hcs, _, hl, hm, hz, _, hcell, hwz⟩
    · simp [Value.cells] at hcs
      obtain ⟨rfl, rfl, rfl⟩ := hcs
      exact ⟨[], .inl ⟨rfl, rfl, rfl, rfl⟩⟩
    · simp [Value.cells] at hcs
      obtain ⟨rfl, rfl, rfl⟩ := hcs
      exact ⟨zs, .inr ⟨_, rfl, hl, hm, by simpa using hz, hcell, hwz⟩⟩
  obtain ⟨a1, len1, cap1, rfl⟩ := okWide_slice Trym.underlying26 (hval 1 26 v1 rfl rfl)
  have k1 := h1
  have lt1 : ∀ x ∈ p1, x.block < W.heap.size := by obtain ⟨m, hm⟩ := k1; exact DataW.trod_lt m _ _ _ hm
  obtain ⟨z1, w1⟩ : ∃ zs, IsRow .i64 W a1 len1 cap1 zs := by
    obtain ⟨fuel, hf⟩ := h1
    rcases open_ints Trym.underlying26 Trym.underlying3 (by kernel_rfl) hf with ⟨hcs, _⟩ | ⟨x, l, c, zs, hcs, _, hl, hm, hz, _, hcell, hwz⟩
    · simp [Value.cells] at hcs
      obtain ⟨rfl, rfl, rfl⟩ := hcs
      exact ⟨[], .inl ⟨rfl, rfl, rfl, rfl⟩⟩
    · simp [Value.cells] at hcs
      obtain ⟨rfl, rfl, rfl⟩ := hcs
      exact ⟨zs, .inr ⟨_, rfl, hl, hm, by simpa using hz, hcell, hwz⟩⟩
  obtain ⟨a2, len2, cap2, rfl⟩ := okWide_slice Trym.underlying26 (hval 2 26 v2 rfl rfl)
  have k2 := h2
  have lt2 : ∀ x ∈ p2, x.block < W.heap.size := by obtain ⟨m, hm⟩ := k2; exact DataW.trod_lt m _ _ _ hm
  obtain ⟨z2, w2⟩ : ∃ zs, IsRow .i64 W a2 len2 cap2 zs := by
    obtain ⟨fuel, hf⟩ := h2
    rcases open_ints Trym.underlying26 Trym.underlying3 (by kernel_rfl) hf with ⟨hcs, _⟩ | ⟨x, l, c, zs, hcs, _, hl, hm, hz, _, hcell, hwz⟩
    · simp [Value.cells] at hcs
      obtain ⟨rfl, rfl, rfl⟩ := hcs
      exact ⟨[], .inl ⟨rfl, rfl, rfl, rfl⟩⟩
    · simp [Value.cells] at hcs
      obtain ⟨rfl, rfl, rfl⟩ := hcs
      exact ⟨zs, .inr ⟨_, rfl, hl, hm, by simpa using hz, hcell, hwz⟩⟩
  obtain ⟨a3, rfl, rfl, rfl, w3⟩ := open_int Trym.underlying3 (hval 3 3 v3 rfl rfl) h3
  obtain ⟨a4, rfl, rfl, rfl, w4⟩ := open_int Trym.underlying3 (hval 4 3 v4 rfl rfl) h4
  obtain ⟨a5, rfl, rfl, rfl, w5⟩ := open_int Trym.underlying3 (hval 5 3 v5 rfl rfl) h5
  obtain ⟨a6, rfl, rfl, rfl, w6⟩ := open_int Trym.underlying3 (hval 6 3 v6 rfl rfl) h6
  obtain ⟨a7, rfl, rfl, rfl, w7⟩ := open_int Trym.underlying3 (hval 7 3 v7 rfl rfl) h7
  clear hA0 hval0
  refine (walk a0 len0 cap0 z0 a1 len1 cap1 z1 a2 len2 cap2 z2 a3 a4 a5 a6 a7 W w0 w1 w2 w3 w4 w5 w6 w7).mono fun e W' ⟨he, bel⟩ => ?_
  subst he
  exact ⟨_, rfl, _, _, _, [], _, [], hW', trodAll_mk1 (shut_bool Trym.underlying4 _), (trodAll_cons_mk (Below.trod laidOut (by kernel_rfl) (of_decide_eq_true (by kernel_rfl)) k0 bel lt0) (trodAll_cons_mk (Below.trod laidOut (by kernel_rfl) (of_decide_eq_true (by kernel_rfl)) k1 bel lt1) (trodAll_cons_mk (Below.trod laidOut (by kernel_rfl) (of_decide_eq_true (by kernel_rfl)) k2 bel lt2) (trodAll_cons_mk (shut_int Trym.underlying3 w3) (trodAll_cons_mk (shut_int Trym.underlying3 w4) (trodAll_cons_mk (shut_int Trym.underlying3 w5) (trodAll_cons_mk (shut_int Trym.underlying3 w6) (trodAll_cons_mk (shut_int Trym.underlying3 w7) trodAll_mk0)))))))), rfl, bel.frame _, fun h => by cases h⟩

theorem over : Rows.fnReplicasNextTopicStartsElsewhereRow.holds Trym.pinned (OpenSpec.ofChange Rows.fnReplicasNextTopicStartsElsewhereSpec) :=
  OpenClaim.holds_of_wide 9 Trym.f9 rfl rfl rfl rfl rfl rfl rfl ⟨rfl, rfl, rfl, rfl, rfl⟩ rfl rfl rfl rfl rfl (by kernel_rfl) Trym.func9 (by kernel_rfl)
    (of_decide_eq_true (by kernel_rfl)) (by unfold Func.isWrapper; first | (rw [if_pos (by decide +kernel)]; kernel_rfl) | (rw [if_neg (by decide +kernel)]; exact ⟨rfl, rfl⟩))
    (fun os started H enc _ => lifted os started H enc)

/-- ████ THE STATEMENT ████ -/
theorem proved : Rows.FnReplicasNextTopicStartsElsewhereSaid := over
#print axioms proved
end Go.Proofs.Qxb6602780aMods.fnReplicasNextTopicStartsElsewhere
