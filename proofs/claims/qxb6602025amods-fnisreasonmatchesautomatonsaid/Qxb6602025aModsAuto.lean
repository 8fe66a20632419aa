/- FnIsReasonMatchesAutomaton: the walk. -/
import Derived.Test.Qxb6602025aModsRsn
namespace Go.Proofs.Qxb6602025aMods
open Go.ChangeShapes Go.WideShapes Go.ChangeAt Go.RowKit
set_option linter.unusedVariables false

theorem zzb8_yes (s : ByteArray) (w : World) (h : s.size ≤ 1048576) : Calls Trym.prog 8 #[.string s] w fun e w' => e = .returned (.bool true) ∧ w' = w := by
  go_enter Trym.func8, Trym.ntmps8
  go_wp2
  go_ret
  exact ⟨rfl, rfl⟩
theorem zzb8_no (s : ByteArray) (w : World) (h : 1048576 < s.size) (hm : s.size ≤ maxLen) : Calls Trym.prog 8 #[.string s] w fun e w' => e = .returned (.bool false) ∧ w' = w := by
  unfold maxLen at hm
  go_enter Trym.func8, Trym.ntmps8
  go_wp2
  go_ret
  exact ⟨rfl, rfl⟩

theorem st_range (f : Nat → Int) (k : Nat) : stF f k = 0 ∨ stF f k = 1 ∨ stF f k = 2 ∨ stF f k = 3 ∨ stF f k = 4 := by
  cases k with
  | zero => exact .inl rfl
  | succ k =>
    simp only [stF, stepA]
    split
    · split <;> simp
    · split
      · simp
      · split
        · simp
        · split <;> simp

theorem rsn_true {f : Nat → Int} {n : Nat} (h : Reason f n) : true = true ↔ Reason f n := ⟨fun _ => h, fun _ => rfl⟩
theorem rsn_false {f : Nat → Int} {n : Nat} (h : ¬ Reason f n) : false = true ↔ Reason f n := ⟨fun e => absurd e (by decide), fun k => absurd k h⟩
theorem no_reason {f : Nat → Int} {n : Nat} {p : Prop} (h : p ↔ Reason f n) (hp : ¬ p) : ¬ Reason f n := fun hr => hp (h.2 hr)

theorem step_mid {st c : Int} (h : st = 1 ∨ st = 2 ∨ st = 3) : stepA st c = if upB c || digB c then 3 else if c = 95 then 2 else 4 := by
  rcases h with rfl | rfl | rfl <;> simp [stepA]

set_option maxHeartbeats 2000000 in
theorem walk3 (s : ByteArray) (w : World) (h : s.size ≤ 1048576) : Calls Trym.prog 3 #[.string s] w fun e w' => e = .returned (.bool true) ∧ w' = w := by
  go_enter Trym.func3, Trym.ntmps3
  go_wp2_with fail
  refine (zzb8_yes _ _ h).mono ?_
  rintro e w' ⟨rfl, hw'⟩
  obtain rfl := hw'.symm
  go_wp2
  go_loop [3, 4] (fun st i => ∃ k : Nat, k ≤ s.size ∧ i = .int .i64 k ∧ st = .int .i64 (stF (byt s) k)) (fun _ i => (s.size - intOf i).toNat)
  case atStart => exact ⟨0, Nat.zero_le _, rfl, rfl⟩
  case round =>
    obtain ⟨k, hk, rfl, rfl⟩ := hrel
    by_cases hlt : k < s.size
    · have hb := byt_eq s k hlt
      obtain ⟨c, hc⟩ : ∃ c, c = byt s k := ⟨_, rfl⟩
      have hbd := byt_bd s k
      rw [← hc] at hb hbd
      have hnx : Hid (stF (byt s) (k + 1) = stepA (stF (byt s) k) c) := by show stF (byt s) (k + 1) = _; rw [hc]; rfl
      have hrg := st_range (byt s) k
      obtain ⟨st, hst⟩ : ∃ st, st = stF (byt s) k := ⟨_, rfl⟩
      rw [← hst] at hnx hrg ⊢
      clear hc hst
      rcases hrg with rfl | rfl | rfl | rfl | rfl
      · cases hu : upB c with
        | true =>
          go_wp2_with fail
          refine (upper_any _ _).mono ?_
          rintro e w' ⟨rfl, hw'⟩
          obtain rfl := hw'.symm
          go_wp2
          go_round
          case rel => exact ⟨k + 1, by omega, by go_num, by rw [hnx.out]; simp [stepA, hu]⟩
          case measure => simp [intOf]; omega
        | false =>
          go_wp2_with fail
          refine (upper_any _ _).mono ?_
          rintro e w' ⟨rfl, hw'⟩
          obtain rfl := hw'.symm
          go_wp2
          go_round
          case rel => exact ⟨k + 1, by omega, by go_num, by rw [hnx.out]; simp [stepA, hu]⟩
          case measure => simp [intOf]; omega
      · cases hu : upB c with
        | true =>
          go_wp2_with (first | (go_at_call 9; refine (upper_any _ _).mono ?_; rintro e w' ⟨rfl, hw'⟩; obtain rfl := hw'.symm) | (go_at_call 10; refine (digit_any _ _).mono ?_; rintro e w' ⟨rfl, hw'⟩; obtain rfl := hw'.symm))
          go_round
          case rel => exact ⟨k + 1, by omega, by go_num, by rw [hnx.out, step_mid (by decide)]; simp [hu]⟩
          case measure => simp [intOf]; omega
        | false =>
          cases hd : digB c with
          | true =>
            go_wp2_with (first | (go_at_call 9; refine (upper_any _ _).mono ?_; rintro e w' ⟨rfl, hw'⟩; obtain rfl := hw'.symm) | (go_at_call 10; refine (digit_any _ _).mono ?_; rintro e w' ⟨rfl, hw'⟩; obtain rfl := hw'.symm))
            go_round
            case rel => exact ⟨k + 1, by omega, by go_num, by rw [hnx.out, step_mid (by decide)]; simp [hu, hd]⟩
            case measure => simp [intOf]; omega
          | false =>
            by_cases h95 : c = 95
            · subst h95
              go_wp2_with (first | (go_at_call 9; refine (upper_any _ _).mono ?_; rintro e w' ⟨rfl, hw'⟩; obtain rfl := hw'.symm) | (go_at_call 10; refine (digit_any _ _).mono ?_; rintro e w' ⟨rfl, hw'⟩; obtain rfl := hw'.symm))
              go_round
              case rel => exact ⟨k + 1, by omega, by go_num, by rw [hnx.out, step_mid (by decide)]; simp [hu, hd]⟩
              case measure => simp [intOf]; omega
            · have h95' : (c == 95) = false := by simpa using h95
              go_wp2_with (first | (go_at_call 9; refine (upper_any _ _).mono ?_; rintro e w' ⟨rfl, hw'⟩; obtain rfl := hw'.symm) | (go_at_call 10; refine (digit_any _ _).mono ?_; rintro e w' ⟨rfl, hw'⟩; obtain rfl := hw'.symm))
              go_round
              case rel => exact ⟨k + 1, by omega, by go_num, by rw [hnx.out, step_mid (by decide)]; simp [hu, hd, h95]⟩
              case measure => simp [intOf]; omega
      · cases hu : upB c with
        | true =>
          go_wp2_with (first | (go_at_call 9; refine (upper_any _ _).mono ?_; rintro e w' ⟨rfl, hw'⟩; obtain rfl := hw'.symm) | (go_at_call 10; refine (digit_any _ _).mono ?_; rintro e w' ⟨rfl, hw'⟩; obtain rfl := hw'.symm))
          go_round
          case rel => exact ⟨k + 1, by omega, by go_num, by rw [hnx.out, step_mid (by decide)]; simp [hu]⟩
          case measure => simp [intOf]; omega
        | false =>
          cases hd : digB c with
          | true =>
            go_wp2_with (first | (go_at_call 9; refine (upper_any _ _).mono ?_; rintro e w' ⟨rfl, hw'⟩; obtain rfl := hw'.symm) | (go_at_call 10; refine (digit_any _ _).mono ?_; rintro e w' ⟨rfl, hw'⟩; obtain rfl := hw'.symm))
            go_round
            case rel => exact ⟨k + 1, by omega, by go_num, by rw [hnx.out, step_mid (by decide)]; simp [hu, hd]⟩
            case measure => simp [intOf]; omega
          | false =>
            by_cases h95 : c = 95
            · subst h95
              go_wp2_with (first | (go_at_call 9; refine (upper_any _ _).mono ?_; rintro e w' ⟨rfl, hw'⟩; obtain rfl := hw'.symm) | (go_at_call 10; refine (digit_any _ _).mono ?_; rintro e w' ⟨rfl, hw'⟩; obtain rfl := hw'.symm))
              go_round
              case rel => exact ⟨k + 1, by omega, by go_num, by rw [hnx.out, step_mid (by decide)]; simp [hu, hd]⟩
              case measure => simp [intOf]; omega
            · have h95' : (c == 95) = false := by simpa using h95
              go_wp2_with (first | (go_at_call 9; refine (upper_any _ _).mono ?_; rintro e w' ⟨rfl, hw'⟩; obtain rfl := hw'.symm) | (go_at_call 10; refine (digit_any _ _).mono ?_; rintro e w' ⟨rfl, hw'⟩; obtain rfl := hw'.symm))
              go_round
              case rel => exact ⟨k + 1, by omega, by go_num, by rw [hnx.out, step_mid (by decide)]; simp [hu, hd, h95]⟩
              case measure => simp [intOf]; omega
      · cases hu : upB c with
        | true =>
          go_wp2_with (first | (go_at_call 9; refine (upper_any _ _).mono ?_; rintro e w' ⟨rfl, hw'⟩; obtain rfl := hw'.symm) | (go_at_call 10; refine (digit_any _ _).mono ?_; rintro e w' ⟨rfl, hw'⟩; obtain rfl := hw'.symm))
          go_round
          case rel => exact ⟨k + 1, by omega, by go_num, by rw [hnx.out, step_mid (by decide)]; simp [hu]⟩
          case measure => simp [intOf]; omega
        | false =>
          cases hd : digB c with
          | true =>
            go_wp2_with (first | (go_at_call 9; refine (upper_any _ _).mono ?_; rintro e w' ⟨rfl, hw'⟩; obtain rfl := hw'.symm) | (go_at_call 10; refine (digit_any _ _).mono ?_; rintro e w' ⟨rfl, hw'⟩; obtain rfl := hw'.symm))
            go_round
            case rel => exact ⟨k + 1, by omega, by go_num, by rw [hnx.out, step_mid (by decide)]; simp [hu, hd]⟩
            case measure => simp [intOf]; omega
          | false =>
            by_cases h95 : c = 95
            · subst h95
              go_wp2_with (first | (go_at_call 9; refine (upper_any _ _).mono ?_; rintro e w' ⟨rfl, hw'⟩; obtain rfl := hw'.symm) | (go_at_call 10; refine (digit_any _ _).mono ?_; rintro e w' ⟨rfl, hw'⟩; obtain rfl := hw'.symm))
              go_round
              case rel => exact ⟨k + 1, by omega, by go_num, by rw [hnx.out, step_mid (by decide)]; simp [hu, hd]⟩
              case measure => simp [intOf]; omega
            · have h95' : (c == 95) = false := by simpa using h95
              go_wp2_with (first | (go_at_call 9; refine (upper_any _ _).mono ?_; rintro e w' ⟨rfl, hw'⟩; obtain rfl := hw'.symm) | (go_at_call 10; refine (digit_any _ _).mono ?_; rintro e w' ⟨rfl, hw'⟩; obtain rfl := hw'.symm))
              go_round
              case rel => exact ⟨k + 1, by omega, by go_num, by rw [hnx.out, step_mid (by decide)]; simp [hu, hd, h95]⟩
              case measure => simp [intOf]; omega
      · go_wp2
        go_round
        case rel => exact ⟨k + 1, by omega, by go_num, by rw [hnx.out]; simp [stepA]⟩
        case measure => simp [intOf]; omega
    · obtain rfl : k = s.size := by omega
      have hlaw := auto_law (byt s) s.size
      have hrg := st_range (byt s) s.size
      obtain ⟨st, hst⟩ : ∃ st, st = stF (byt s) s.size := ⟨_, rfl⟩
      rw [← hst] at hlaw ⊢
      clear hrg hst
      by_cases h3 : st = 3
      · subst h3
        by_cases ha : 3 ≤ s.size
        · by_cases hb : s.size ≤ 63
          · have HT : Hid (Reason (byt s) s.size) := hlaw.1 (by omega)
            clear hlaw
            go_wp2_with fail
            refine (zzrsn_any s true w (rsn_true HT.out)).mono ?_
            rintro e w' ⟨rfl, hw'⟩
            obtain rfl := hw'.symm
            go_wp2
            go_ret
            exact ⟨retB (by simp; omega), rfl⟩
          · have HT : Hid (¬ Reason (byt s) s.size) := no_reason hlaw (by omega)
            clear hlaw
            go_wp2_with fail
            refine (zzrsn_any s false w (rsn_false HT.out)).mono ?_
            rintro e w' ⟨rfl, hw'⟩
            obtain rfl := hw'.symm
            go_wp2
            go_ret
            exact ⟨retB (by simp; omega), rfl⟩
        · have HT : Hid (¬ Reason (byt s) s.size) := no_reason hlaw (by omega)
          clear hlaw
          go_wp2_with fail
          refine (zzrsn_any s false w (rsn_false HT.out)).mono ?_
          rintro e w' ⟨rfl, hw'⟩
          obtain rfl := hw'.symm
          go_wp2
          go_ret
          exact ⟨rfl, rfl⟩
      · have HT : Hid (¬ Reason (byt s) s.size) := no_reason hlaw (by omega)
        have h3' : (st == 3) = false := by simpa using h3
        clear hlaw h3
        go_wp2_with fail
        refine (zzrsn_any s false w (rsn_false HT.out)).mono ?_
        rintro e w' ⟨rfl, hw'⟩
        obtain rfl := hw'.symm
        go_wp2
        go_ret
        exact ⟨rfl, rfl⟩
end Go.Proofs.Qxb6602025aMods
