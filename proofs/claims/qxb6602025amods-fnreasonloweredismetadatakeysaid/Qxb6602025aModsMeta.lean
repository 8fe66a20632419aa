/- isMetadataKey, ZZIsMetadataKey. -/
import Derived.Test.Qxb6602025aModsRsn
namespace Go.Proofs.Qxb6602025aMods
open Go.ChangeShapes Go.WideShapes Go.ChangeAt Go.RowKit
set_option linter.unusedVariables false

/-- A byte that may stand inside a metadata key. -/
def OkM (c : Int) : Prop := (97 ≤ c ∧ c ≤ 122) ∨ (65 ≤ c ∧ c ≤ 90) ∨ (48 ≤ c ∧ c ≤ 57) ∨ c = 45 ∨ c = 95

set_option maxHeartbeats 1000000 in
theorem key_yes (s : ByteArray) (w : World) (h2 : 2 ≤ s.size) (h64 : s.size ≤ 64) (h0 : 97 ≤ byt s 0 ∧ byt s 0 ≤ 122) (hok : ∀ i, 0 < i → i < s.size → OkM (byt s i)) : Calls Trym.prog 18 #[.string s] w fun e w' => e = .returned (.bool true) ∧ w' = w := by
  have HO : Hid _ := hok
  clear hok
  have hb0 := byt_eq s 0 (by omega)
  obtain ⟨c0, hc0⟩ : ∃ c, c = byt s 0 := ⟨_, rfl⟩
  rw [← hc0] at h0 hb0
  clear hc0
  obtain ⟨h01, h02⟩ := h0
  go_enter Trym.func18, Trym.ntmps18
  go_wp2
  go_loop [3] (fun i => ∃ k : Nat, 1 ≤ k ∧ k ≤ s.size ∧ i = .int .i64 k) (fun i => (s.size - intOf i).toNat)
  case atStart => exact ⟨1, by omega, by omega, rfl⟩
  case round =>
    obtain ⟨k, hk1, hk, rfl⟩ := hrel
    by_cases hlt : k < s.size
    · have hb := byt_eq s k hlt
      have hm := HO.out k (by omega) hlt
      obtain ⟨c, hc⟩ : ∃ c, c = byt s k := ⟨_, rfl⟩
      rw [← hc] at hb hm
      clear hc
      rcases hm with ⟨ha, hb'⟩ | ⟨ha, hb'⟩ | ⟨ha, hb'⟩ | rfl | rfl
      all_goals
        go_wp2
        go_round
        case rel => exact ⟨k + 1, by omega, by omega, by go_num⟩
        case measure => simp [intOf]; omega
    · go_wp2
      go_ret
      exact ⟨rfl, rfl⟩

theorem zzkey_yes (s : ByteArray) (w : World) (h2 : 2 ≤ s.size) (h64 : s.size ≤ 64) (h0 : 97 ≤ byt s 0 ∧ byt s 0 ≤ 122) (hok : ∀ i, 0 < i → i < s.size → OkM (byt s i)) : Calls Trym.prog 13 #[.string s] w fun e w' => e = .returned (.bool true) ∧ w' = w := by
  have H0 : Hid _ := h0
  have HO : Hid _ := hok
  clear h0 hok
  go_enter Trym.func13, Trym.ntmps13
  go_wp2_with fail
  refine (key_yes s w h2 h64 H0.out HO.out).mono ?_
  rintro e w' ⟨rfl, hw'⟩
  obtain rfl := hw'.symm
  go_wp2
  go_ret
  exact ⟨rfl, rfl⟩
end Go.Proofs.Qxb6602025aMods
