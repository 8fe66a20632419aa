/- zzb1StopsAt and zzb1PlainModel. -/
import Derived.Test.Qxb6601229aModsPlB
namespace Go.Proofs.Qxb6601229aMods
open Go.ChangeShapes Go.WideShapes Go.ChangeAt Go.RowKit
set_option linter.unusedVariables false

set_option maxHeartbeats 1000000 in
theorem stops_any (b n cap q : Nat) (f : Nat → Int) (flow : Bool) (w : World) (hc : ∀ i, i < n → w.cell? ⟨b, i, none⟩ = some (.int .u8 (f i))) (hn : n ≤ 2000000) (hq : q < n) :
    Calls Trym.prog 24 #[.slice (some ⟨b, 0, none⟩) n cap, .int .i64 q, .bool flow] w fun e w' => e = .returned (.bool (stopB f n q flow)) ∧ w' = w := by
  have hcq := hc q hq
  have hp : 0 < q → w.cell? ⟨b, q - 1, none⟩ = some (.int .u8 (f (q - 1))) := fun h => hc (q - 1) (by omega)
  have hx : q + 1 < n → w.cell? ⟨b, q + 1, none⟩ = some (.int .u8 (f (q + 1))) := fun h => hc (q + 1) h
  clear hc
  obtain ⟨R, hR⟩ : ∃ R, R = stopB f n q flow := ⟨_, rfl⟩
  rw [← hR]
  have HR : Hid _ := hR
  clear hR
  by_cases hq1 : q + 1 < n
  · have hx' := hx hq1
    have hat : atF f n (q + 1) = f (q + 1) := by simp [atF, hq1]
    have HA : Hid _ := hat
    clear hx hat
    go_enter Trym.func24, Trym.ntmps24
    go_wp2_with (first | (go_at_call 18; refine (zzFlow_any _ _).mono ?_; rintro e w' ⟨rfl, hw'⟩; obtain rfl := hw'.symm) | (go_at_call 19; refine (zzBlank_any _ _).mono ?_; rintro e w' ⟨rfl, hw'⟩; obtain rfl := hw'.symm))
    all_goals
      go_ret
      refine ⟨retB ?_, rfl⟩
      rw [HR.out, stopB, HA.out]
      clear HR HA
      first | (simp [brkB, endB, flowB, *]; done) | (simp_all [brkB, endB, flowB]; done)
  · have hat : atF f n (q + 1) = 0 := by simp [atF, hq1]
    have HA : Hid _ := hat
    clear hx hat
    go_enter Trym.func24, Trym.ntmps24
    go_wp2_with (first | (go_at_call 18; refine (zzFlow_any _ _).mono ?_; rintro e w' ⟨rfl, hw'⟩; obtain rfl := hw'.symm) | (go_at_call 19; refine (zzBlank_any _ _).mono ?_; rintro e w' ⟨rfl, hw'⟩; obtain rfl := hw'.symm))
    all_goals
      go_ret
      refine ⟨retB ?_, rfl⟩
      rw [HR.out, stopB, HA.out]
      clear HR HA
      first | (simp [brkB, endB, flowB, *]; done) | (simp_all [brkB, endB, flowB]; done)

end Go.Proofs.Qxb6601229aMods
