/- Plain lines: the small tests, and what a line's end is. -/
import Derived.Test.Qxb6601229aModsBase
import Derived.Deep.QuietTactic
import Derived.BigQuiet
namespace Go.Proofs.Qxb6601229aMods
open Go.ChangeShapes Go.WideShapes Go.ChangeAt Go.RowKit
set_option linter.unusedVariables false

def blankB (c : Int) : Bool := c == 32 || c == 9
def brkB (c : Int) : Bool := c == 10 || c == 13
def endB (c : Int) : Bool := c == 32 || c == 9 || c == 10 || c == 13 || c == 0
def flowB (c : Int) : Bool := c == 44 || c == 91 || c == 93 || c == 123 || c == 125

theorem retB {a b : Bool} (h : a = b) : Ending.returned (.bool a) = .returned (.bool b) := by rw [h]

theorem isBreak_any (c : Int) (w : World) : Calls Trym.prog 26 #[.int .u8 c] w fun e w' => e = .returned (.bool (brkB c)) ∧ w' = w := by
  go_enter Trym.func26, Trym.ntmps26
  go_wp2
  all_goals
    go_ret
    exact ⟨retB (by simp [brkB, *]), rfl⟩
theorem isBlank_any (c : Int) (w : World) : Calls Trym.prog 27 #[.int .u8 c] w fun e w' => e = .returned (.bool (blankB c)) ∧ w' = w := by
  go_enter Trym.func27, Trym.ntmps27
  go_wp2
  all_goals
    go_ret
    exact ⟨retB (by simp [blankB, *]), rfl⟩
theorem isEnd_any (c : Int) (w : World) : Calls Trym.prog 28 #[.int .u8 c] w fun e w' => e = .returned (.bool (endB c)) ∧ w' = w := by
  go_enter Trym.func28, Trym.ntmps28
  go_wp2
  all_goals
    go_ret
    exact ⟨retB (by simp [endB, *]), rfl⟩
theorem isFlow_any (c : Int) (w : World) : Calls Trym.prog 29 #[.int .u8 c] w fun e w' => e = .returned (.bool (flowB c)) ∧ w' = w := by
  go_enter Trym.func29, Trym.ntmps29
  go_wp2
  all_goals
    go_ret
    exact ⟨retB (by simp [flowB, *]), rfl⟩
theorem zzFlow_any (c : Int) (w : World) : Calls Trym.prog 18 #[.int .u8 c] w fun e w' => e = .returned (.bool (flowB c)) ∧ w' = w := by
  go_enter Trym.func18, Trym.ntmps18
  go_wp2
  all_goals
    go_ret
    exact ⟨retB (by simp [flowB, *]), rfl⟩
theorem zzBlank_any (c : Int) (w : World) : Calls Trym.prog 19 #[.int .u8 c] w fun e w' => e = .returned (.bool (blankB c)) ∧ w' = w := by
  go_enter Trym.func19, Trym.ntmps19
  go_wp2
  all_goals
    go_ret
    exact ⟨retB (by simp [blankB, *]), rfl⟩

/-- The byte at i, or 0 past the end. -/
def atF (f : Nat → Int) (n i : Nat) : Int := if i < n then f i else 0

theorem at_any (P b n cap i : Nat) (ao : Option Addr) (f : Nat → Int) (w : World) (hP : w.cell? ⟨P, 1, none⟩ = some (.slice ao n cap)) (hb : i < n → ao = some ⟨b, 0, none⟩ ∧ w.cell? ⟨b, i, none⟩ = some (.int .u8 (f i))) (hn : n ≤ 2000000) :
    Calls Trym.prog 25 #[.pointer (some ⟨P, 0, none⟩), .int .i64 i] w fun e w' => e = .returned (.int .u8 (atF f n i)) ∧ w' = w := by
  by_cases h : i < n
  · obtain ⟨rfl, hc⟩ := hb h
    have e : atF f n i = f i := by simp [atF, h]
    rw [e]; clear e hb
    go_enter Trym.func25, Trym.ntmps25
    go_wp2
    go_ret
    exact ⟨rfl, rfl⟩
  · have e : atF f n i = 0 := by simp [atF, h]
    rw [e]; clear e hb
    go_enter Trym.func25, Trym.ntmps25
    go_wp2
    go_ret
    exact ⟨rfl, rfl⟩

/-- A plain scalar's line cannot go on at offset q. -/
def stopB (f : Nat → Int) (n q : Nat) (flow : Bool) : Bool :=
  (f q == 0 || brkB (f q)) || (f q == 58 && (endB (atF f n (q + 1)) || (flow && flowB (atF f n (q + 1))))) || (f q == 35 && (decide (0 < q) && blankB (f (q - 1)))) || (flow && flowB (f q))

/-- From 'start' on the line stops at q; e is behind its last character that is no blank. -/
def IsEnd (f : Nat → Int) (n start : Nat) (flow : Bool) (q e : Nat) : Prop :=
  start ≤ e ∧ e ≤ q ∧ q ≤ n ∧ (∀ j, start ≤ j → j < q → stopB f n j flow = false) ∧ (q < n → stopB f n q flow = true) ∧ (∀ j, e ≤ j → j < q → blankB (f j) = true) ∧ (start < e → blankB (f (e - 1)) = false)

theorem stop_exists (f : Nat → Int) (n start : Nat) (flow : Bool) (h : start ≤ n) : ∃ q, start ≤ q ∧ q ≤ n ∧ (∀ j, start ≤ j → j < q → stopB f n j flow = false) ∧ (q < n → stopB f n q flow = true) := by
  have : ∀ d, ∀ s, n - s = d → s ≤ n → ∃ q, s ≤ q ∧ q ≤ n ∧ (∀ j, s ≤ j → j < q → stopB f n j flow = false) ∧ (q < n → stopB f n q flow = true) := by
    intro d
    induction d with
    | zero => intro s h1 h2; exact ⟨s, Nat.le_refl _, h2, fun j a b => by omega, fun h => by omega⟩
    | succ d ih =>
      intro s h1 h2
      cases hs : stopB f n s flow with
      | true => exact ⟨s, Nat.le_refl _, h2, fun j a b => by omega, fun _ => hs⟩
      | false =>
        obtain ⟨q, a, b, c, e⟩ := ih (s + 1) (by omega) (by omega)
        refine ⟨q, by omega, b, fun j hj hq => ?_, e⟩
        by_cases ej : j = s
        · subst ej; exact hs
        · exact c j (by omega) hq
  exact this _ start rfl h

theorem trim_exists (f : Nat → Int) (start q : Nat) (h : start ≤ q) : ∃ e, start ≤ e ∧ e ≤ q ∧ (∀ j, e ≤ j → j < q → blankB (f j) = true) ∧ (start < e → blankB (f (e - 1)) = false) := by
  induction q with
  | zero => exact ⟨0, h, Nat.le_refl _, fun j a b => by omega, fun h => by omega⟩
  | succ q ih =>
    by_cases hs : start = q + 1
    · exact ⟨q + 1, by omega, Nat.le_refl _, fun j a b => by omega, fun h => by omega⟩
    · cases hb : blankB (f q) with
      | false => exact ⟨q + 1, by omega, Nat.le_refl _, fun j a b => by omega, fun _ => hb⟩
      | true =>
        obtain ⟨e, a, b, c, d⟩ := ih (by omega)
        refine ⟨e, a, by omega, fun j hj hq => ?_, d⟩
        by_cases ej : j = q
        · subst ej; exact hb
        · exact c j hj (by omega)

theorem end_exists (f : Nat → Int) (n start : Nat) (flow : Bool) (h : start ≤ n) : ∃ q e, IsEnd f n start flow q e := by
  obtain ⟨q, a, b, c, d⟩ := stop_exists f n start flow h
  obtain ⟨e, a', b', c', d'⟩ := trim_exists f start q a
  exact ⟨q, e, a', b', b, c, d, c', d'⟩
end Go.Proofs.Qxb6601229aMods
