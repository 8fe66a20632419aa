/- lower, ZZLower. -/
import Derived.Test.Qxb6602780aModsRows
import Derived.WalkKit
import Derived.WalkSpells
import Derived.ProofKit
import Derived.Deep.QuietTactic
import Derived.BigQuiet
import Derived.WalkLawsBesides
namespace Go.Proofs.Qxb6602780aMods
open Go.ChangeShapes Go.WideShapes Go.ChangeAt Go.RowKit
set_option linter.unusedVariables false

theorem retB {a b : Bool} (h : a = b) : Ending.returned (.bool a) = .returned (.bool b) := by rw [h]

/-- One triple comes before another. -/
def lowB (a0 a1 a2 b0 b1 b2 : Int) : Bool := if a0 = b0 then (if a1 = b1 then (if a2 = b2 then false else decide (a2 < b2)) else decide (a1 < b1)) else decide (a0 < b0)

set_option maxHeartbeats 1000000 in
theorem lower_any (a0 a1 a2 b0 b1 b2 : Int) (w : World) : Calls Trym.prog 27 #[.agg #[.int .i64 a0, .int .i64 a1, .int .i64 a2], .agg #[.int .i64 b0, .int .i64 b1, .int .i64 b2]] w fun e w' => e = .returned (.bool (lowB a0 a1 a2 b0 b1 b2)) ∧ Below w.heap.size w w' := by
  by_cases h0 : a0 = b0
  · subst h0
    by_cases h1 : a1 = b1
    · subst h1
      by_cases h2 : a2 = b2
      · subst h2
        have e : Hid (lowB a0 a1 a2 a0 a1 a2 = false) := by show _ = _; simp [lowB]
        go_enter Trym.func27, Trym.ntmps27
        go_wp2
        refine wp_loop_rounds 4 ?_
        rw [rounds_succ]
        go_wp2
        go_quiet (fail)
        go_wp2
        rw [rounds_succ]
        go_wp2
        go_quiet (fail)
        go_wp2
        rw [rounds_succ]
        go_wp2
        go_quiet (fail)
        go_wp2
        rw [rounds_succ]
        go_wp2
        go_ret
        refine ⟨retB e.out.symm, ?_⟩
        repeat (first | exact ((Below.refl _ _).alloc (Nat.le_refl _) _).alloc (by simp) _ | refine below_drewN ?_ _)
      · have h2' : (a2 != b2) = true := by simpa using h2
        have e : Hid (lowB a0 a1 a2 a0 a1 b2 = decide (a2 < b2)) := by show _ = _; simp [lowB, h2]
        clear h2
        go_enter Trym.func27, Trym.ntmps27
        go_wp2
        refine wp_loop_rounds 3 ?_
        rw [rounds_succ]
        go_wp2
        go_quiet (fail)
        go_wp2
        rw [rounds_succ]
        go_wp2
        go_quiet (fail)
        go_wp2
        rw [rounds_succ]
        go_wp2
        go_quiet (fail)
        go_wp2
        go_quiet (fail)
        go_wp2
        go_ret
        refine ⟨retB e.out.symm, ?_⟩
        repeat (first | exact ((Below.refl _ _).alloc (Nat.le_refl _) _).alloc (by simp) _ | refine below_drewN ?_ _)
    · have h1' : (a1 != b1) = true := by simpa using h1
      have e : Hid (lowB a0 a1 a2 a0 b1 b2 = decide (a1 < b1)) := by show _ = _; simp [lowB, h1]
      clear h1
      go_enter Trym.func27, Trym.ntmps27
      go_wp2
      refine wp_loop_rounds 2 ?_
      rw [rounds_succ]
      go_wp2
      go_quiet (fail)
      go_wp2
      rw [rounds_succ]
      go_wp2
      go_quiet (fail)
      go_wp2
      go_quiet (fail)
      go_wp2
      go_ret
      refine ⟨retB e.out.symm, ?_⟩
      repeat (first | exact ((Below.refl _ _).alloc (Nat.le_refl _) _).alloc (by simp) _ | refine below_drewN ?_ _)
  · have h0' : (a0 != b0) = true := by simpa using h0
    have e : Hid (lowB a0 a1 a2 b0 b1 b2 = decide (a0 < b0)) := by show _ = _; simp [lowB, h0]
    clear h0
    go_enter Trym.func27, Trym.ntmps27
    go_wp2
    refine wp_loop_rounds 1 ?_
    rw [rounds_succ]
    go_wp2
    go_quiet (fail)
    go_wp2
    go_quiet (fail)
    go_wp2
    go_ret
    refine ⟨retB e.out.symm, ?_⟩
    repeat (first | exact ((Below.refl _ _).alloc (Nat.le_refl _) _).alloc (by simp) _ | refine below_drewN ?_ _)

theorem zzlower_any (a0 a1 a2 b0 b1 b2 : Int) (w : World) : Calls Trym.prog 10 #[.agg #[.int .i64 a0, .int .i64 a1, .int .i64 a2], .agg #[.int .i64 b0, .int .i64 b1, .int .i64 b2]] w fun e w' => e = .returned (.bool (lowB a0 a1 a2 b0 b1 b2)) ∧ Below w.heap.size w w' := by
  go_enter Trym.func10, Trym.ntmps10
  go_wp2_with fail
  refine (lower_any _ _ _ _ _ _ _).mono ?_
  rintro e w' ⟨rfl, hb⟩
  go_wp2
  go_ret
  exact ⟨rfl, (((Below.refl _ _).alloc (Nat.le_refl _) _).alloc (by simp) _).trans (hb.mono (by simp; omega))⟩
end Go.Proofs.Qxb6602780aMods
