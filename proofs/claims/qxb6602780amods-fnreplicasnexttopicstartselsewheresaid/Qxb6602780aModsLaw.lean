/- FnReplicasNextTopicStartsElsewhere: the walk. -/
import Derived.Test.Qxb6602780aModsZZR
namespace Go.Proofs.Qxb6602780aMods
open Go.ChangeShapes Go.WideShapes Go.ChangeAt Go.RowKit
set_option linter.unusedVariables false

/-- A slice of integers that came in, as the walk reads it. -/
def View (k : IntKind) (w : World) (a : Option Addr) (n : Nat) (Z : Nat → Int) : Prop :=
  n ≠ 0 → ∃ b off, a = some ⟨b, off, none⟩ ∧ ∀ i, i < n → w.cell? ⟨b, off + i, none⟩ = some (.int k (Z i))

theorem incr_lt {Z : Nat → Int} {n : Nat} (h : Incr Z n) : ∀ j i, i < j → j < n → Z i < Z j := by
  intro j
  induction j with
  | zero => intro i hi; omega
  | succ j ih =>
    intro i hi hj
    have h1 := h (j + 1) (by omega) hj
    simp only [Nat.add_sub_cancel] at h1
    by_cases e : i = j
    · subst e; exact h1
    · have := ih i (by omega) (by omega); omega

theorem incr_ne {Z : Nat → Int} {n : Nat} (h : Incr Z n) {i j : Nat} (hi : i < n) (hj : j < n) (hne : i ≠ j) : (Z i != Z j) = true := by
  have : Z i ≠ Z j := by
    rcases Nat.lt_or_gt_of_ne hne with e | e
    · have := incr_lt h j i e hj; omega
    · have := incr_lt h i j e hi; omega
  simpa using this

set_option maxHeartbeats 2000000 in
set_option maxRecDepth 20000 in
theorem walk9_main (b0 off0 b1 off1 b2 off2 n c0 c1 c2 p1 p2 r : Nat) (last next : Int) (Z0 Z1 Z2 : Nat → Int) (w : World) (hn2 : 2 ≤ n) (hn : n ≤ 4096) (hp1 : 1 ≤ p1) (hp2 : 1 ≤ p2)
    (v0 : ∀ i, i < n → w.cell? ⟨b0, off0 + i, none⟩ = some (.int .i32 (Z0 i))) (v1 : ∀ i, i < n → w.cell? ⟨b1, off1 + i, none⟩ = some (.int .i64 (Z1 i))) (v2 : ∀ i, i < n → w.cell? ⟨b2, off2 + i, none⟩ = some (.int .i64 (Z2 i)))
    (hd1 : Dom n n n p1 r Z1) (hd2 : Dom n n n p2 r Z1) (hi : Incr Z0 n) (hz : ∀ i, 0 ≤ Z1 i ∧ Z1 i ≤ 1073741824) :
    Calls Trym.prog 9 #[.slice (some ⟨b0, off0, none⟩) n c0, .slice (some ⟨b1, off1, none⟩) n c1, .slice (some ⟨b2, off2, none⟩) n c2, .int .i64 last, .int .i64 next, .int .i64 p1, .int .i64 p2, .int .i64 r] w fun e w' => e = .returned (.bool true) ∧ Below w.heap.size w w' := by
  obtain ⟨hr1, hrn, hpm1⟩ : 1 ≤ r ∧ r ≤ n ∧ p1 ≤ 65536 := by obtain ⟨_, _, _, d2, d3, d4, _⟩ := hd1; omega
  have hpm2 : p2 ≤ 65536 := by obtain ⟨_, _, _, d2, d3, d4, _⟩ := hd2; omega
  have V0 : Hid (∀ i, i < n → w.cell? ⟨b0, off0 + i, none⟩ = some (.int .i32 (Z0 i))) := v0
  have V1 : Hid (∀ i, i < n → w.cell? ⟨b1, off1 + i, none⟩ = some (.int .i64 (Z1 i))) := v1
  have V2 : Hid (∀ i, i < n → w.cell? ⟨b2, off2 + i, none⟩ = some (.int .i64 (Z2 i))) := v2
  have D1 : Hid (Dom n n n p1 r Z1) := hd1
  have D2 : Hid (Dom n n n p2 r Z1) := hd2
  have HI : Hid (Incr Z0 n) := hi
  have HZ : Hid (∀ i, 0 ≤ Z1 i ∧ Z1 i ≤ 1073741824) := hz
  have l0 : b0 < w.heap.size := World.block_lt_of_cell? _ _ (v0 0 (by omega))
  have l1 : b1 < w.heap.size := World.block_lt_of_cell? _ _ (v1 0 (by omega))
  have l2 : b2 < w.heap.size := World.block_lt_of_cell? _ _ (v2 0 (by omega))
  clear v0 v1 v2 hd1 hd2 hi hz
  go_enter Trym.func9, Trym.ntmps9
  go_wp2_with fail
  refine (zzb26_yes _ _ _ _ _ _ _ _ _ _ _ _ _ _ _ (by omega)).mono ?_
  rintro e w' ⟨rfl, hw'⟩
  obtain rfl := hw'.symm
  go_wp2_with fail
  refine (dom_any _ _ _ n n n _ _ _ p1 r Z1 true w hn2 hn (fun _ => ⟨b1, off1, rfl, V1.out⟩) ⟨fun _ => D1.out, fun _ => rfl⟩).mono ?_
  rintro e w' ⟨rfl, hw'⟩
  obtain rfl := hw'.symm
  go_wp2_with fail
  refine (dom_any _ _ _ n n n _ _ _ p2 r Z1 true w hn2 hn (fun _ => ⟨b1, off1, rfl, V1.out⟩) ⟨fun _ => D2.out, fun _ => rfl⟩).mono ?_
  rintro e w' ⟨rfl, hw'⟩
  obtain rfl := hw'.symm
  go_wp2_with fail
  refine (incr_any b0 off0 n _ Z0 true w hn2 hn V0.out ⟨fun _ => HI.out, fun _ => rfl⟩).mono ?_
  rintro e wa ⟨rfl, nq, hwa⟩
  have HA : Hid (Below w.heap.size w wa) := by rw [hwa]; exact below_drewN (Below.refl _ _) _
  have hsa : wa.heap.size = w.heap.size := by rw [hwa]; rfl
  have HSa : Hid (wa.heap.size = w.heap.size) := hsa
  clear hwa hsa
  go_wp2_with fail
  refine (clone32 b0 off0 n _ Z0 wa hn (fun i hi => (HA.out.cell l0).trans (V0.out i hi))).mono ?_
  rintro e wb ⟨rfl, rB, bbl⟩
  have RB : Hid (wb.rowIs wa.heap.size 21 n (fun i => .int .i32 (Z0 i))) := rB
  have HB : Hid (Below w.heap.size w wb) := HA.out.trans (bbl.mono (by have := HSa.out; omega))
  clear rB bbl
  go_wp2_with fail
  refine (clone64 b1 off1 n _ Z1 wb hn (fun i hi => (HB.out.cell l1).trans (V1.out i hi))).mono ?_
  rintro e wc ⟨rfl, rL, bcl⟩
  have RL : Hid (wc.rowIs wb.heap.size 3 n (fun i => .int .i64 (Z1 i))) := rL
  have RB2 : Hid (wc.rowIs wa.heap.size 21 n (fun i => .int .i32 (Z0 i))) := RB.out.of_block (bcl.block _ RB.out.lt)
  have HC : Hid (Below w.heap.size w wc) := HB.out.trans (bcl.mono HB.out.size)
  have lab : Hid (wa.heap.size < wb.heap.size) := RB.out.lt
  clear rL bcl RB
  go_wp2_with fail
  refine (clone64 b2 off2 n _ Z2 wc hn (fun i hi => (HC.out.cell l2).trans (V2.out i hi))).mono ?_
  rintro e wd ⟨rfl, rF, bdl⟩
  have R3 : Hid (Rows3 wd wa.heap.size wb.heap.size wc.heap.size n Z0 Z1 Z2) := by
    have h1 := RL.out.lt
    have h2 := RB2.out.lt
    have h3 := lab.out
    exact ⟨RB2.out.of_block (bdl.block _ h2), RL.out.of_block (bdl.block _ h1), rF, by omega, by omega, by omega⟩
  have HD : Hid (Below w.heap.size w wd) := HC.out.trans (bdl.mono HC.out.size)
  have lwb : Hid (w.heap.size ≤ wb.heap.size ∧ w.heap.size ≤ wc.heap.size) := ⟨HB.out.size, HC.out.size⟩
  clear rF bdl RL RB2 lab HA HB HC
  go_wp2_with fail
  refine (zzrepl_any wa.heap.size wb.heap.size wc.heap.size n last next Z0 Z1 Z2 p1 r wd R3.out hn2 hn hp1 hpm1 hr1 hrn (fun i => by have := HZ.out i; omega)).mono ?_
  rintro e we ⟨s1, G1, g1, next1, L1, F1, hs1, hsl1, rfl, cG1, cg1, lG1, lg1, r31, hLb1, hk1⟩
  have CG1 : Hid (we.cell? ⟨G1, 0, none⟩ = some (.slice (some ⟨g1, 0, none⟩) r r)) := cG1
  have Cg1 : Hid (we.cell? ⟨g1, 0, none⟩ = some (.int .i32 (Z0 s1))) := cg1
  have R31 : Hid (Rows3 we wa.heap.size wb.heap.size wc.heap.size n Z0 L1 F1) := r31
  have HL1 : Hid (∀ i, 0 ≤ L1 i ∧ L1 i ≤ 2000000000) := fun i => by have := hLb1 i; have := HZ.out i; omega
  have HE : Hid (Below w.heap.size w we) := HD.out.trans (hk1.below HD.out.size (fun k hk => by have := lwb.out; omega))
  have GB : Hid (wb.heap.size < G1 ∧ wc.heap.size < G1 ∧ wb.heap.size < g1 ∧ wc.heap.size < g1) := by
    have := R3.out.l.lt; have := R3.out.f.lt; exact ⟨by omega, by omega, by omega, by omega⟩
  clear cG1 cg1 r31 hLb1 hk1 hsl1 lG1 lg1 R3 HD
  go_wp2_with fail
  refine (zzrepl_any wa.heap.size wb.heap.size wc.heap.size n s1 next1 Z0 L1 F1 p2 r we R31.out hn2 hn hp2 hpm2 hr1 hrn HL1.out).mono ?_
  rintro e wf ⟨s2, G2, g2, next2, L2, F2, hs2, hsl2, rfl, cG2, cg2, lG2, lg2, r32, hLb2, hk2⟩
  have cG1 : wf.cell? ⟨G1, 0, none⟩ = some (.slice (some ⟨g1, 0, none⟩) r r) := (World.cell?_of_block (w := we) (hk2.block G1 (World.block_lt_of_cell? _ _ CG1.out) (fun h => by have := GB.out; omega))).trans CG1.out
  have cg1 : wf.cell? ⟨g1, 0, none⟩ = some (.int .i32 (Z0 s1)) := (World.cell?_of_block (w := we) (hk2.block g1 (World.block_lt_of_cell? _ _ Cg1.out) (fun h => by have := GB.out; omega))).trans Cg1.out
  have cb1 : wf.cell? ⟨wa.heap.size, s1, none⟩ = some (.int .i32 (Z0 s1)) := r32.b.cell hs1
  have cb2 : wf.cell? ⟨wa.heap.size, s2, none⟩ = some (.int .i32 (Z0 s2)) := r32.b.cell hs2
  have HF : Hid (Below w.heap.size w wf) := HE.out.trans (hk2.below HE.out.size (fun k hk => by have := lwb.out; omega))
  have hss : ((s1 : Int) != (s2 : Int)) = true := by simp; omega
  have hbb : (Z0 s1 != Z0 s2) = true := incr_ne HI.out hs1 hs2 (by omega)
  have z1 : (0 : Int) < p1 := by omega
  have z2 : (0 : Int) < p2 := by omega
  have z3 : (0 : Int) < r := by omega
  have y1 : (s1 : Int) < n := by omega
  have y2 : (s2 : Int) < n := by omega
  clear hsl2 lG2 lg2 r32 hLb2 hk2 CG1 Cg1 R31 HL1 HE GB lwb D1 D2 V0 V1 V2 HZ
  go_wp2
  go_quiet (fail)
  go_wp2
  go_ret
  exact ⟨rfl, below_drewN HF.out _⟩
end Go.Proofs.Qxb6602780aMods
