/- The contracts of zzb1HexDigit and zzb1HexModel. -/
import Derived.Test.Qxb6601229aModsHexV
namespace Go.Proofs.Qxb6601229aMods
open Go.ChangeShapes Go.WideShapes Go.ChangeAt Go.RowKit
set_option linter.unusedVariables false

theorem ret_i64 {a b : Int} (h : a = b) : Ending.returned (.int .i64 a) = .returned (.int .i64 b) := by rw [h]

theorem beq_yes {a b : Int} (h : (a == b) = true) : a = b := by simpa using h
theorem beq_no {a b : Int} (h : (a == b) = false) : ¬ a = b := by simpa using h

def dg (k : Nat) : Int := if k < 10 then 48 + k else 87 + k
theorem dg_bytes (k : Nat) (h : k < 16) (h' : k < (ByteArray.mk #[48, 49, 50, 51, 52, 53, 54, 55, 56, 57, 97, 98, 99, 100, 101, 102]).size) :
    ((((ByteArray.mk #[48, 49, 50, 51, 52, 53, 54, 55, 56, 57, 97, 98, 99, 100, 101, 102])[k]'h').toNat : Nat) : Int) = dg k := by
  have : k = 0 ∨ k = 1 ∨ k = 2 ∨ k = 3 ∨ k = 4 ∨ k = 5 ∨ k = 6 ∨ k = 7 ∨ k = 8 ∨ k = 9 ∨ k = 10 ∨ k = 11 ∨ k = 12 ∨ k = 13 ∨ k = 14 ∨ k = 15 := by omega
  rcases this with rfl | rfl | rfl | rfl | rfl | rfl | rfl | rfl | rfl | rfl | rfl | rfl | rfl | rfl | rfl | rfl <;> rfl

theorem dg_found (c : Int) (k : Nat) (hk : k < 16) (h : dg k = c) : hexD c = k := by
  unfold dg at h; unfold hexD
  split at h
  · rw [if_pos (by omega)]; omega
  · rw [if_neg (by omega), if_pos (by omega)]; omega
theorem dg_none (c : Int) (hno : ¬ (65 ≤ c ∧ c ≤ 70)) (h : ∀ j, j < 16 → dg j ≠ c) : hexD c = -1 := by
  unfold hexD
  by_cases h1 : 48 ≤ c ∧ c ≤ 57
  · have := h (c - 48).toNat (by omega); unfold dg at this; split at this <;> omega
  · by_cases h2 : 97 ≤ c ∧ c ≤ 102
    · have := h (c - 87).toNat (by omega); unfold dg at this; split at this <;> omega
    · rw [if_neg h1, if_neg h2, if_neg hno]
theorem hexD_upper (c : Int) (h : 65 ≤ c ∧ c ≤ 70) : hexD c = hexD (c - 65 + 97) := by
  rw [hexD_up h.1 h.2, hexD_low (by omega) (by omega)]; omega

set_option maxHeartbeats 400000 in
theorem digit_any (c : Int) (w : World) (h0 : 0 ≤ c) (h1 : c ≤ 255) :
    Calls Trym.prog 22 #[.int .u8 c] w fun e w' => e = .returned (.int .i64 (hexD c)) ∧ w' = w := by
  by_cases hup : 65 ≤ c ∧ c ≤ 70
  · have hno : ¬ (65 ≤ (c - 65 + 97) ∧ (c - 65 + 97) ≤ 70) := by omega
    have HN : Hid _ := hno
    rw [hexD_upper c hup]
    clear hno
    obtain ⟨ha, hb⟩ := hup
    go_enter Trym.func22, Trym.ntmps22
    go_wp2
    go_loop [3] (fun i => ∃ k : Nat, k ≤ 16 ∧ i = .int .i64 k ∧ ∀ j, j < k → dg j ≠ (c - 65 + 97)) (fun i => (16 - intOf i).toNat)
    case atStart => exact ⟨0, Nat.zero_le _, rfl, fun j hj => by omega⟩
    case round =>
      obtain ⟨k, hk, rfl, hd⟩ := hrel
      have HD : Hid _ := hd
      clear hd
      by_cases hlt : k < 16
      · have HB : Hid _ := dg_bytes k hlt (by exact hlt)
        go_wp2
        · go_ret
          have e : ((((ByteArray.mk #[48, 49, 50, 51, 52, 53, 54, 55, 56, 57, 97, 98, 99, 100, 101, 102])[k]'(by exact hlt)).toNat : Nat) : Int) = c - 65 + 97 := beq_yes (by assumption)
          exact ⟨ret_i64 (dg_found _ k hlt (HB.out.symm.trans e)).symm, rfl⟩
        · go_round
          case rel =>
            have e : ¬ ((((ByteArray.mk #[48, 49, 50, 51, 52, 53, 54, 55, 56, 57, 97, 98, 99, 100, 101, 102])[k]'(by exact hlt)).toNat : Nat) : Int) = c - 65 + 97 := beq_no (by assumption)
            refine ⟨k + 1, by omega, by go_num, fun j hj => ?_⟩
            by_cases ej : j = k
            · subst ej; rw [← HB.out]; exact e
            · exact HD.out j (by omega)
          case measure => simp [intOf]; omega
      · obtain rfl : k = 16 := by omega
        have E := dg_none _ HN.out HD.out
        have E' : Hid _ := E
        clear E HN HD
        go_wp2
        go_ret
        exact ⟨ret_i64 E'.out.symm, rfl⟩
  · have HN : Hid _ := hup
    have hc : c < 65 ∨ 70 < c := by omega
    clear hup
    rcases hc with hc | hc
    all_goals
      go_enter Trym.func22, Trym.ntmps22
      go_wp2
      go_loop [3] (fun i => ∃ k : Nat, k ≤ 16 ∧ i = .int .i64 k ∧ ∀ j, j < k → dg j ≠ c) (fun i => (16 - intOf i).toNat)
      case atStart => exact ⟨0, Nat.zero_le _, rfl, fun j hj => by omega⟩
      case round =>
        obtain ⟨k, hk, rfl, hd⟩ := hrel
        have HD : Hid _ := hd
        clear hd
        by_cases hlt : k < 16
        · have HB : Hid _ := dg_bytes k hlt (by exact hlt)
          go_wp2
          · go_ret
            have e : ((((ByteArray.mk #[48, 49, 50, 51, 52, 53, 54, 55, 56, 57, 97, 98, 99, 100, 101, 102])[k]'(by exact hlt)).toNat : Nat) : Int) = c := beq_yes (by assumption)
            exact ⟨ret_i64 (dg_found _ k hlt (HB.out.symm.trans e)).symm, rfl⟩
          · go_round
            case rel =>
              have e : ¬ ((((ByteArray.mk #[48, 49, 50, 51, 52, 53, 54, 55, 56, 57, 97, 98, 99, 100, 101, 102])[k]'(by exact hlt)).toNat : Nat) : Int) = c := beq_no (by assumption)
              refine ⟨k + 1, by omega, by go_num, fun j hj => ?_⟩
              by_cases ej : j = k
              · subst ej; rw [← HB.out]; exact e
              · exact HD.out j (by omega)
            case measure => simp [intOf]; omega
        · obtain rfl : k = 16 := by omega
          have E := dg_none _ HN.out HD.out
          have E' : Hid _ := E
          clear E HN HD
          go_wp2
          go_ret
          exact ⟨ret_i64 E'.out.symm, rfl⟩

theorem acc_step (S d P : Int) : (S % 4294967296 + d * (P % 4294967296) % 4294967296) % 4294967296 = (S + d * P) % 4294967296 := by
  rw [Int.emod_add_emod, Int.add_emod_emod]
  rw [Int.add_emod, Int.mul_emod, Int.emod_emod, ← Int.mul_emod, ← Int.add_emod]
theorem wt_step (m : Nat) : (16 : Int) ^ m % 4294967296 * 16 % 4294967296 = 16 ^ (m + 1) % 4294967296 := by
  rw [Int.pow_succ]; omega
theorem wrap_sum (f : Nat → Int) (c m : Nat) (h : m ≤ c) (h8 : m = c ∨ m = 8) : wrap32 (sumF f c m % 4294967296) = valF f c := by
  rw [← valF_sum f c m h h8]; unfold wrap32; omega

set_option maxHeartbeats 1000000 in
theorem model_row (b n cap k c : Nat) (f : Nat → Int) (w : World) (hc : ∀ i, i < n → w.cell? ⟨b, i, none⟩ = some (.int .u8 (f i))) (hf : ∀ i, 0 ≤ f i ∧ f i ≤ 255) (hL : IsLead f n k) (hn : n ≤ 2000000) (h0 : 0 < c) (h1 : (c : Int) ≤ 9223372036854775807) :
    Calls Trym.prog 11 #[.slice (some ⟨b, 0, none⟩) n cap, .int .i64 c] w fun e w' => e = .returned (.tuple #[.int .i32 (hexR f k c), .int .i64 (hexN k c)]) ∧ w' = w := by
  have hc0 : ¬ c = 0 := by omega
  go_enter Trym.func11, Trym.ntmps11
  go_wp2
  go_loop [6] (fun i => ∃ j : Nat, j ≤ k ∧ j ≤ c ∧ i = .int .i64 j) (fun i => (c - intOf i).toNat)
  case atStart => exact ⟨0, Nat.zero_le _, by omega, rfl⟩
  case round =>
    obtain ⟨j, hjk, hjc, rfl⟩ := hrel
    have hkn : k ≤ n := hL.1
    by_cases hlt : j < c ∧ j < n
    · obtain ⟨hlc, hln⟩ := hlt
      have hcj := hc j hln
      obtain ⟨hf0, hf1⟩ := hf j
      have HL : Hid _ := hL
      clear hc hf hL
      by_cases hd : 0 ≤ hexD (f j)
      · have N := lead_next HL.out hjk hln hd
        go_wp2_with fail
        refine (digit_any _ _ hf0 hf1).mono ?_
        rintro e w' ⟨rfl, hw'⟩
        obtain rfl := hw'.symm
        go_wp2
        go_round
        case rel => exact ⟨j + 1, N, by omega, by go_num⟩
        case measure => simp [intOf]; omega
      · have N := lead_stop HL.out hjk (by omega)
        have O := hexOut_stop (f := f) (k := k) (count := (c : Int)) (by omega)
        subst N
        have O' : Hid _ := O
        clear O
        go_wp2_with (go_at_call 22; refine (digit_any _ _ hf0 hf1).mono ?_; rintro e w' ⟨rfl, hw'⟩; obtain rfl := hw'.symm)
        go_ret2
        exact ⟨ret_pair O'.out.1.symm O'.out.2.symm, rfl⟩
    · by_cases hlc : j < c
      · have N : j = k := by omega
        have O := hexOut_stop (f := f) (k := k) (count := (c : Int)) (by omega)
        subst N
        have O' : Hid _ := O
        clear O hc hf hL
        go_wp2
        go_ret2
        exact ⟨ret_pair O'.out.1.symm O'.out.2.symm, rfl⟩
      · obtain rfl : j = c := by omega
        have O := hexOut_all (f := f) (k := k) (j := j) (count := (j : Int)) hjk rfl
        have O' : Hid _ := O
        have HL : Hid _ := hL
        clear O hL
        by_cases h8 : j < 8
        · by_cases hjn : j < n
          all_goals
            go_wp2
            go_loop [7, 8, 10] (fun acc wt jj => ∃ m : Nat, m ≤ j ∧ jj = .int .i64 ((j : Int) - 1 - m) ∧ acc = .int .u32 (sumF f j m % 4294967296) ∧ wt = .int .u32 (16 ^ m % 4294967296)) (fun _ _ jj => (intOf jj + 1).toNat)
            case atStart => exact ⟨0, Nat.zero_le _, by simp, by simp [sumF], by simp⟩
            case round =>
              obtain ⟨m, hm, rfl, rfl, rfl⟩ := hrel
              by_cases hlt : m < j
              · have hcj := hc (j - 1 - m) (by omega)
                obtain ⟨hf0, hf1⟩ := hf (j - 1 - m)
                have hd := HL.out.2.1 (j - 1 - m) (by omega)
                have hd2 := hexD_le (f (j - 1 - m))
                go_wp2_with fail
                refine (digit_any _ _ hf0 hf1).mono ?_
                rintro e w' ⟨rfl, hw'⟩
                obtain rfl := hw'.symm
                go_wp2
                go_round
                case rel => exact ⟨m + 1, by omega, by go_num, by rw [acc_step]; rfl, by rw [wt_step]⟩
                case measure => simp [intOf]; omega
              · obtain rfl : m = j := by omega
                go_wp2
                go_ret2
                exact ⟨ret_pair ((wrap_sum f m m (by omega) (by simp)).trans O'.out.1.symm) O'.out.2.symm, rfl⟩
        · by_cases hjn : j < n
          all_goals
            go_wp2
            go_loop [7, 8, 10] (fun acc wt jj => ∃ m : Nat, m ≤ 8 ∧ jj = .int .i64 ((j : Int) - 1 - m) ∧ acc = .int .u32 (sumF f j m % 4294967296) ∧ wt = .int .u32 (16 ^ m % 4294967296)) (fun _ _ jj => (intOf jj + 1).toNat)
            case atStart => exact ⟨0, Nat.zero_le _, by simp, by simp [sumF], by simp⟩
            case round =>
              obtain ⟨m, hm, rfl, rfl, rfl⟩ := hrel
              by_cases hlt : m < 8
              · have hcj := hc (j - 1 - m) (by omega)
                obtain ⟨hf0, hf1⟩ := hf (j - 1 - m)
                have hd := HL.out.2.1 (j - 1 - m) (by omega)
                have hd2 := hexD_le (f (j - 1 - m))
                go_wp2_with fail
                refine (digit_any _ _ hf0 hf1).mono ?_
                rintro e w' ⟨rfl, hw'⟩
                obtain rfl := hw'.symm
                go_wp2
                go_round
                case rel => exact ⟨m + 1, by omega, by go_num, by rw [acc_step]; rfl, by rw [wt_step]⟩
                case measure => simp [intOf]; omega
              · obtain rfl : m = 8 := by omega
                go_wp2
                go_ret2
                exact ⟨ret_pair ((wrap_sum f j 8 (by omega) (by simp)).trans O'.out.1.symm) O'.out.2.symm, rfl⟩

theorem model_none (ao : Option Addr) (n cap : Nat) (count : Int) (w : World) (h0 : count ≤ 0) :
    Calls Trym.prog 11 #[.slice ao n cap, .int .i64 count] w fun e w' => e = .returned (.tuple #[.int .i32 0, .int .i64 count]) ∧ w' = w := by
  go_enter Trym.func11, Trym.ntmps11
  go_wp2
  go_ret2
  exact ⟨rfl, rfl⟩

theorem model_empty (ao : Option Addr) (cap : Nat) (count : Int) (w : World) (h0 : 0 < count) :
    Calls Trym.prog 11 #[.slice ao 0 cap, .int .i64 count] w fun e w' => e = .returned (.tuple #[.int .i32 0, .int .i64 0]) ∧ w' = w := by
  go_enter Trym.func11, Trym.ntmps11
  go_wp2
  refine wp_loop_rounds 1 ?_
  rw [rounds_succ]
  go_wp2
  go_ret2
  exact ⟨rfl, rfl⟩

/-- zzb1HexModel, at every byte slice and every count. -/
theorem model_any (ao : Option Addr) (n cap k : Nat) (f : Nat → Int) (count : Int) (w : World) (hB : Bytes w ao n f) (hL : IsLead f n k) (hn : n ≤ 2000000) (h1 : count ≤ 9223372036854775807) :
    Calls Trym.prog 11 #[.slice ao n cap, .int .i64 count] w fun e w' => e = .returned (.tuple #[.int .i32 (hexR f k count), .int .i64 (hexN k count)]) ∧ w' = w := by
  by_cases h0 : 0 < count
  · rcases hB with ⟨rfl | ⟨b, rfl, hc⟩, hf⟩
    · refine (model_empty ao cap count w h0).mono ?_
      rintro e w' ⟨rfl, rfl⟩
      have hk : k = 0 := by have := hL.1; omega
      subst hk
      obtain ⟨a, b⟩ := hexOut_stop (f := f) (k := 0) (count := count) (by omega)
      exact ⟨ret_pair a.symm b.symm, rfl⟩
    · obtain ⟨c, rfl⟩ : ∃ c : Nat, count = c := ⟨count.toNat, by omega⟩
      exact model_row b n cap k c f w hc hf hL hn (by omega) h1
  · refine (model_none ao n cap count w (by omega)).mono ?_
    rintro e w' ⟨rfl, rfl⟩
    have e1 : count.toNat = 0 := by omega
    exact ⟨ret_pair (by simp [hexR, e1, valF]) (by simp [hexN]; omega), rfl⟩
end Go.Proofs.Qxb6601229aMods
