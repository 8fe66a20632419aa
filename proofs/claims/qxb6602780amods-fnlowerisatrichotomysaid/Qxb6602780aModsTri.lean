/- FnLowerIsATrichotomy: the walk. -/
import Derived.Test.Qxb6602780aModsLower
namespace Go.Proofs.Qxb6602780aMods
open Go.ChangeShapes Go.WideShapes Go.ChangeAt Go.RowKit
set_option linter.unusedVariables false

theorem tri (a0 a1 a2 b0 b1 b2 : Int) (h : ¬ (a0 = b0 ∧ a1 = b1 ∧ a2 = b2)) : (lowB a0 a1 a2 b0 b1 b2 = true ∧ lowB b0 b1 b2 a0 a1 a2 = false) ∨ (lowB a0 a1 a2 b0 b1 b2 = false ∧ lowB b0 b1 b2 a0 a1 a2 = true) := by
  unfold lowB
  by_cases h0 : a0 = b0
  · subst h0
    by_cases h1 : a1 = b1
    · subst h1
      have h2 : ¬ a2 = b2 := fun e => h ⟨rfl, rfl, e⟩
      simp [h2, Ne.symm h2]; omega
    · simp [h1, Ne.symm h1]; omega
  · simp [h0, Ne.symm h0]; omega

theorem Trym.info3 : (Trym.prog.info? 3).map (fun i => (i.zero, i.size, i.bytes)) = some (some (.int .i64 0), 1, 8) := by kernel_rfl
theorem Trym.cells3 : Trym.prog.cellsOf 3 = 1 := by kernel_rfl
theorem eq_arr (a0 a1 a2 b0 b1 b2 : Int) (w : World) : (Op.equalIn 10000 22 (.agg #[.int .i64 a0, .int .i64 a1, .int .i64 a2]) (.agg #[.int .i64 b0, .int .i64 b1, .int .i64 b2])).run Trym.prog w = .ok ((a0 == b0) && (a1 == b1) && (a2 == b2)) w := by
  obtain ⟨i0, hi, hz0, hz1, hz2⟩ := info_parts Trym.info3
  show (Op.equalIn (9999 + 1) 22 _ _).run Trym.prog w = _
  rw [run_equalIn_array w 9999 _ _ Trym.underlying22 hi, Trym.cells3]
  have he : Trym.prog.plainKey 3 = true := by kernel_rfl
  have p0 : ∀ (x y z : Value) (w : World), (part 3 #[x, y, z] 0).run Trym.prog w = .ok x w := fun x y z w => run_part_plain w he rfl
  have p1 : ∀ (x y z : Value) (w : World), (part 3 #[x, y, z] 1).run Trym.prog w = .ok y w := fun x y z w => run_part_plain w he rfl
  have p2 : ∀ (x y z : Value) (w : World), (part 3 #[x, y, z] 2).run Trym.prog w = .ok z w := fun x y z w => run_part_plain w he rfl
  have q : ∀ (a b : Int) (w : World), (Op.equalIn 9999 3 (.int .i64 a) (.int .i64 b)).run Trym.prog w = .ok (a == b) w := fun a b w => run_equalIn_int w 9998 3 .i64 .i64 a b Trym.underlying3
  by_cases h0 : a0 = b0
  · by_cases h1 : a1 = b1
    · by_cases h2 : a2 = b2
      · simp [List.range_succ, Op.eqItems, p0, p1, p2, q, h0, h1, h2]
      · simp [List.range_succ, Op.eqItems, p0, p1, p2, q, h0, h1, h2]
    · simp [List.range_succ, Op.eqItems, p0, p1, q, h0, h1]
  · simp [List.range_succ, Op.eqItems, p0, q, h0]

theorem two_boxes {w w1 : World} {xs ys : Array Value} (hb : Below ((w.alloc (.cells xs 22)).alloc (.cells ys 22)).heap.size ((w.alloc (.cells xs 22)).alloc (.cells ys 22)) w1) (i : Nat) : w1.cell? ⟨w.heap.size, i, none⟩ = xs[i]? ∧ w1.cell? ⟨w.heap.size + 1, i, none⟩ = ys[i]? := by
  have h1 : w1.heap[w.heap.size]? = some (.cells xs 22) := by
    rw [hb.block w.heap.size (by simp; omega), Below.heap_alloc _ _ _ (by simp)]
    exact heap_alloc_new w _
  have h2 : w1.heap[w.heap.size + 1]? = some (.cells ys 22) := by
    rw [hb.block (w.heap.size + 1) (by simp)]
    have := heap_alloc_new (w.alloc (.cells xs 22)) (.cells ys 22)
    simpa using this
  constructor
  · simp [World.cell?, h1]
  · simp [World.cell?, h2]

set_option maxHeartbeats 1000000 in
theorem walk3 (a0 a1 a2 b0 b1 b2 : Int) (w : World) : Calls Trym.prog 3 #[.agg #[.int .i64 a0, .int .i64 a1, .int .i64 a2], .agg #[.int .i64 b0, .int .i64 b1, .int .i64 b2]] w fun e w' => e = .returned (.bool true) ∧ Below w.heap.size w w' := by
  have heq := eq_arr a0 a1 a2 b0 b1 b2
  by_cases h : a0 = b0 ∧ a1 = b1 ∧ a2 = b2
  · obtain ⟨rfl, rfl, rfl⟩ := h
    have e : lowB a0 a1 a2 a0 a1 a2 = false := by simp [lowB]
    simp only [beq_self_eq_true, Bool.and_self] at heq
    go_enter Trym.func3, Trym.ntmps3
    go_wp2_with fail
    refine (zzlower_any _ _ _ _ _ _ _).mono ?_
    rintro r w1 ⟨rfl, hb1⟩
    have hz : w.heap.size + 1 < w1.heap.size := by have := hb1.size; simp at this; omega
    have c00 : w1.cell? ⟨w.heap.size, 0, none⟩ = some (.int .i64 a0) := (two_boxes hb1 0).1
    have c01 : w1.cell? ⟨w.heap.size, 1, none⟩ = some (.int .i64 a1) := (two_boxes hb1 1).1
    have c02 : w1.cell? ⟨w.heap.size, 2, none⟩ = some (.int .i64 a2) := (two_boxes hb1 2).1
    have c10 : w1.cell? ⟨w.heap.size + 1, 0, none⟩ = some (.int .i64 a0) := (two_boxes hb1 0).2
    have c11 : w1.cell? ⟨w.heap.size + 1, 1, none⟩ = some (.int .i64 a1) := (two_boxes hb1 1).2
    have c12 : w1.cell? ⟨w.heap.size + 1, 2, none⟩ = some (.int .i64 a2) := (two_boxes hb1 2).2
    go_wp2_with fail
    refine (zzlower_any _ _ _ _ _ _ _).mono ?_
    rintro r w2 ⟨rfl, hb2'⟩
    have hb2 := hb1.trans (hb2'.mono hb1.size)
    clear c00 c01 c02 c10 c11 c12 hb2'
    have hz' : w.heap.size + 1 < w2.heap.size := by have := hb2.size; simp at this; omega
    have c00' : w2.cell? ⟨w.heap.size, 0, none⟩ = some (.int .i64 a0) := (two_boxes hb2 0).1
    have c01' : w2.cell? ⟨w.heap.size, 1, none⟩ = some (.int .i64 a1) := (two_boxes hb2 1).1
    have c02' : w2.cell? ⟨w.heap.size, 2, none⟩ = some (.int .i64 a2) := (two_boxes hb2 2).1
    have c10' : w2.cell? ⟨w.heap.size + 1, 0, none⟩ = some (.int .i64 a0) := (two_boxes hb2 0).2
    have c11' : w2.cell? ⟨w.heap.size + 1, 1, none⟩ = some (.int .i64 a1) := (two_boxes hb2 1).2
    have c12' : w2.cell? ⟨w.heap.size + 1, 2, none⟩ = some (.int .i64 a2) := (two_boxes hb2 2).2
    go_wp2
    go_ret
    exact ⟨rfl, (((Below.refl _ _).alloc (Nat.le_refl _) _).alloc (by simp) _).trans (hb2.mono (by simp; omega))⟩
  · have hne : ((a0 == b0) && (a1 == b1) && (a2 == b2)) = false := by
      simp only [Bool.and_eq_false_iff, beq_eq_false_iff_ne]; omega
    rw [hne] at heq
    rcases tri a0 a1 a2 b0 b1 b2 h with ⟨e1, e2⟩ | ⟨e1, e2⟩
    · clear hne h
      go_enter Trym.func3, Trym.ntmps3
      go_wp2_with fail
      refine (zzlower_any _ _ _ _ _ _ _).mono ?_
      rintro r w1 ⟨rfl, hb1⟩
      have hz : w.heap.size + 1 < w1.heap.size := by have := hb1.size; simp at this; omega
      have c00 : w1.cell? ⟨w.heap.size, 0, none⟩ = some (.int .i64 a0) := (two_boxes hb1 0).1
      have c01 : w1.cell? ⟨w.heap.size, 1, none⟩ = some (.int .i64 a1) := (two_boxes hb1 1).1
      have c02 : w1.cell? ⟨w.heap.size, 2, none⟩ = some (.int .i64 a2) := (two_boxes hb1 2).1
      have c10 : w1.cell? ⟨w.heap.size + 1, 0, none⟩ = some (.int .i64 b0) := (two_boxes hb1 0).2
      have c11 : w1.cell? ⟨w.heap.size + 1, 1, none⟩ = some (.int .i64 b1) := (two_boxes hb1 1).2
      have c12 : w1.cell? ⟨w.heap.size + 1, 2, none⟩ = some (.int .i64 b2) := (two_boxes hb1 2).2
      go_wp2_with fail
      refine (zzlower_any _ _ _ _ _ _ _).mono ?_
      rintro r w2 ⟨rfl, hb2'⟩
      have hb2 := hb1.trans (hb2'.mono hb1.size)
      clear c00 c01 c02 c10 c11 c12 hb2'
      have hz' : w.heap.size + 1 < w2.heap.size := by have := hb2.size; simp at this; omega
      have c00' : w2.cell? ⟨w.heap.size, 0, none⟩ = some (.int .i64 a0) := (two_boxes hb2 0).1
      have c01' : w2.cell? ⟨w.heap.size, 1, none⟩ = some (.int .i64 a1) := (two_boxes hb2 1).1
      have c02' : w2.cell? ⟨w.heap.size, 2, none⟩ = some (.int .i64 a2) := (two_boxes hb2 2).1
      have c10' : w2.cell? ⟨w.heap.size + 1, 0, none⟩ = some (.int .i64 b0) := (two_boxes hb2 0).2
      have c11' : w2.cell? ⟨w.heap.size + 1, 1, none⟩ = some (.int .i64 b1) := (two_boxes hb2 1).2
      have c12' : w2.cell? ⟨w.heap.size + 1, 2, none⟩ = some (.int .i64 b2) := (two_boxes hb2 2).2
      go_wp2
      go_ret
      exact ⟨rfl, (((Below.refl _ _).alloc (Nat.le_refl _) _).alloc (by simp) _).trans (hb2.mono (by simp; omega))⟩
    · clear hne h
      go_enter Trym.func3, Trym.ntmps3
      go_wp2_with fail
      refine (zzlower_any _ _ _ _ _ _ _).mono ?_
      rintro r w1 ⟨rfl, hb1⟩
      have hz : w.heap.size + 1 < w1.heap.size := by have := hb1.size; simp at this; omega
      have c00 : w1.cell? ⟨w.heap.size, 0, none⟩ = some (.int .i64 a0) := (two_boxes hb1 0).1
      have c01 : w1.cell? ⟨w.heap.size, 1, none⟩ = some (.int .i64 a1) := (two_boxes hb1 1).1
      have c02 : w1.cell? ⟨w.heap.size, 2, none⟩ = some (.int .i64 a2) := (two_boxes hb1 2).1
      have c10 : w1.cell? ⟨w.heap.size + 1, 0, none⟩ = some (.int .i64 b0) := (two_boxes hb1 0).2
      have c11 : w1.cell? ⟨w.heap.size + 1, 1, none⟩ = some (.int .i64 b1) := (two_boxes hb1 1).2
      have c12 : w1.cell? ⟨w.heap.size + 1, 2, none⟩ = some (.int .i64 b2) := (two_boxes hb1 2).2
      go_wp2_with fail
      refine (zzlower_any _ _ _ _ _ _ _).mono ?_
      rintro r w2 ⟨rfl, hb2'⟩
      have hb2 := hb1.trans (hb2'.mono hb1.size)
      clear c00 c01 c02 c10 c11 c12 hb2'
      have hz' : w.heap.size + 1 < w2.heap.size := by have := hb2.size; simp at this; omega
      have c00' : w2.cell? ⟨w.heap.size, 0, none⟩ = some (.int .i64 a0) := (two_boxes hb2 0).1
      have c01' : w2.cell? ⟨w.heap.size, 1, none⟩ = some (.int .i64 a1) := (two_boxes hb2 1).1
      have c02' : w2.cell? ⟨w.heap.size, 2, none⟩ = some (.int .i64 a2) := (two_boxes hb2 2).1
      have c10' : w2.cell? ⟨w.heap.size + 1, 0, none⟩ = some (.int .i64 b0) := (two_boxes hb2 0).2
      have c11' : w2.cell? ⟨w.heap.size + 1, 1, none⟩ = some (.int .i64 b1) := (two_boxes hb2 1).2
      have c12' : w2.cell? ⟨w.heap.size + 1, 2, none⟩ = some (.int .i64 b2) := (two_boxes hb2 2).2
      go_wp2
      go_ret
      exact ⟨rfl, (((Below.refl _ _).alloc (Nat.le_refl _) _).alloc (by simp) _).trans (hb2.mono (by simp; omega))⟩
end Go.Proofs.Qxb6602780aMods
