/- b1Upper, b1Digit, isReason, ZZIsReason. -/
import Derived.Test.Qxb6602025aModsRows
import Derived.Test.Qxb6602025aModsPlain
import Derived.WalkKit
import Derived.WalkSpells
import Derived.ProofKit
namespace Go.Proofs.Qxb6602025aMods
open Go.ChangeShapes Go.WideShapes Go.ChangeAt Go.RowKit
set_option linter.unusedVariables false

theorem retB {a b : Bool} (h : a = b) : Ending.returned (.bool a) = .returned (.bool b) := by rw [h]

theorem upper_any (c : Int) (w : World) : Calls Trym.prog 9 #[.int .u8 c] w fun e w' => e = .returned (.bool (upB c)) ∧ w' = w := by
  go_enter Trym.func9, Trym.ntmps9
  go_wp2
  all_goals
    go_ret
    exact ⟨retB (by first | (simp [upB, *]; done) | (simp [upB, *]; omega)), rfl⟩
theorem digit_any (c : Int) (w : World) : Calls Trym.prog 10 #[.int .u8 c] w fun e w' => e = .returned (.bool (digB c)) ∧ w' = w := by
  go_enter Trym.func10, Trym.ntmps10
  go_wp2
  all_goals
    go_ret
    exact ⟨retB (by first | (simp [digB, *]; done) | (simp [digB, *]; omega)), rfl⟩

theorem okR_iff {f : Nat → Int} {n k : Nat} {c : Int} (hc : c = f k) : okR f n k = true ↔ (65 ≤ c ∧ c ≤ 90) ∨ (48 ≤ c ∧ c ≤ 57 ∧ 0 < k) ∨ (c = 95 ∧ 0 < k ∧ k + 1 < n) := by
  subst hc
  simp [okR, upB, digB, and_assoc, or_assoc]
theorem ok_snoc {f : Nat → Int} {n k : Nat} (h : ∀ j, j < k → okR f n j = true) (hk : okR f n k = true) : ∀ j, j < k + 1 → okR f n j = true := by
  intro j hj
  by_cases e : j = k
  · subst e; exact hk
  · exact h j (by omega)
theorem r_false {f : Nat → Int} {n k : Nat} {R : Bool} (hR : R = true ↔ Reason f n) (hk : k < n) (h : ¬ okR f n k = true) : false = R := by
  cases hr : R with
  | false => rfl
  | true => exact absurd ((hR.1 hr).2.2 k hk) h

theorem rsn_short (s : ByteArray) (w : World) (h : s.size < 3 ∨ 63 < s.size) : Calls Trym.prog 17 #[.string s] w fun e w' => e = .returned (.bool false) ∧ w' = w := by
  rcases h with h | h
  all_goals
    go_enter Trym.func17, Trym.ntmps17
    go_wp2
    go_ret
    exact ⟨rfl, rfl⟩

set_option maxHeartbeats 1000000 in
theorem rsn_mid (s : ByteArray) (R : Bool) (w : World) (h3 : 3 ≤ s.size) (h63 : s.size ≤ 63) (hR : R = true ↔ Reason (byt s) s.size) : Calls Trym.prog 17 #[.string s] w fun e w' => e = .returned (.bool R) ∧ w' = w := by
  have HR : Hid _ := hR
  clear hR
  go_enter Trym.func17, Trym.ntmps17
  go_wp2
  go_loop [3] (fun i => ∃ k : Nat, k ≤ s.size ∧ i = .int .i64 k ∧ ∀ j, j < k → okR (byt s) s.size j = true) (fun i => (s.size - intOf i).toNat)
  case atStart => exact ⟨0, Nat.zero_le _, rfl, fun j h => by omega⟩
  case round =>
    obtain ⟨k, hk, rfl, hok⟩ := hrel
    have HO : Hid _ := hok
    clear hok
    by_cases hlt : k < s.size
    · have hb := byt_eq s k hlt
      obtain ⟨c, hc⟩ : ∃ c, c = byt s k := ⟨_, rfl⟩
      have hbd := byt_bd s k
      rw [← hc] at hb hbd
      have HC : Hid _ := hc
      clear hc
      go_wp2
      all_goals first
        | (go_round
           case rel => exact ⟨k + 1, by omega, by go_num, ok_snoc HO.out ((okR_iff HC.out).2 (by omega))⟩
           case measure => simp [intOf]; omega)
        | (go_ret
           exact ⟨retB (r_false HR.out hlt (fun h => by have := (okR_iff HC.out).1 h; omega)), rfl⟩)
    · obtain rfl : k = s.size := by omega
      have e : Hid (R = true) := HR.out.2 ⟨h3, h63, HO.out⟩
      clear HR HO
      go_wp2
      go_ret
      exact ⟨retB e.out.symm, rfl⟩

/-- isReason, at every string. -/
theorem rsn_any (s : ByteArray) (R : Bool) (w : World) (hR : R = true ↔ Reason (byt s) s.size) : Calls Trym.prog 17 #[.string s] w fun e w' => e = .returned (.bool R) ∧ w' = w := by
  by_cases h : 3 ≤ s.size ∧ s.size ≤ 63
  · exact rsn_mid s R w h.1 h.2 hR
  · have e : R = false := by
      cases hr : R with
      | false => rfl
      | true => have := hR.1 hr; exact absurd ⟨this.1, this.2.1⟩ h
    rw [e]
    exact rsn_short s w (by omega)

theorem zzrsn_any (s : ByteArray) (R : Bool) (w : World) (hR : R = true ↔ Reason (byt s) s.size) : Calls Trym.prog 11 #[.string s] w fun e w' => e = .returned (.bool R) ∧ w' = w := by
  have HR : Hid _ := hR
  clear hR
  go_enter Trym.func11, Trym.ntmps11
  go_wp2_with fail
  refine (rsn_any s R w HR.out).mono ?_
  rintro e w' ⟨rfl, hw'⟩
  obtain rfl := hw'.symm
  go_wp2
  go_ret
  exact ⟨rfl, rfl⟩
end Go.Proofs.Qxb6602025aMods
