/- The contract of hexValue. -/
import Derived.Test.Qxb6601229aModsBase
import Derived.Test.Qxb6601229aModsPlain
namespace Go.Proofs.Qxb6601229aMods
open Go.ChangeShapes Go.WideShapes Go.ChangeAt Go.RowKit
set_option linter.unusedVariables false

theorem ret_pair {a b c d : Int} (h1 : a = c) (h2 : b = d) : Ending.returned (.tuple #[.int .i32 a, .int .i64 b]) = .returned (.tuple #[.int .i32 c, .int .i64 d]) := by rw [h1, h2]

set_option maxHeartbeats 800000 in
theorem hexv_row (b n cap k : Nat) (f : Nat → Int) (count : Int) (w : World) (hc : ∀ i, i < n → w.cell? ⟨b, i, none⟩ = some (.int .u8 (f i))) (hf : ∀ i, 0 ≤ f i ∧ f i ≤ 255) (hL : IsLead f n k) (hn : n ≤ 2000000) (h0 : 0 < count) (h1 : count ≤ 9223372036854775807) :
    Calls Trym.prog 21 #[.slice (some ⟨b, 0, none⟩) n cap, .int .i64 count] w fun e w' => e = .returned (.tuple #[.int .i32 (hexR f k count), .int .i64 (hexN k count)]) ∧ w' = w := by
  go_enter Trym.func21, Trym.ntmps21
  go_wp2
  go_loop [6, 10] (fun v i => ∃ j : Nat, j ≤ k ∧ (j : Int) ≤ count ∧ i = .int .i64 j ∧ v = .int .i32 (valF f j)) (fun _ i => (count - intOf i).toNat)
  case atStart => exact ⟨0, Nat.zero_le _, by omega, rfl, rfl⟩
  case round =>
    obtain ⟨j, hjk, hjc, rfl, rfl⟩ := hrel
    have hvb := valF_bd f j
    have hkn : k ≤ n := hL.1
    by_cases hlt : (j : Int) < count
    · by_cases hln : j < n
      · have hcj := hc j hln
        obtain ⟨hf0, hf1⟩ := hf j
        rcases hex_ranges (f j) hf0 hf1 with h | h | h | h | h | h | h
        · obtain ⟨ha, hb⟩ := h
          have R := valF_step f j (f j - 48) (hexD_dec ha hb) (by omega)
          have N := lead_next hL hjk hln (by rw [hexD_dec ha hb]; omega)
          clear hc hf hL
          have R' : Hid _ := R
          clear R
          go_wp2
          go_round
          case rel => exact ⟨j + 1, N, by omega, by go_num, by rw [R'.out]⟩
          case measure => simp [intOf]; omega
        · obtain ⟨ha, hb⟩ := h
          have R := valF_step f j (f j - 97 + 10) (hexD_low ha hb) (by omega)
          have N := lead_next hL hjk hln (by rw [hexD_low ha hb]; omega)
          clear hc hf hL
          have R' : Hid _ := R
          clear R
          go_wp2
          go_round
          case rel => exact ⟨j + 1, N, by omega, by go_num, by rw [R'.out]⟩
          case measure => simp [intOf]; omega
        · obtain ⟨ha, hb⟩ := h
          have R := valF_step f j (f j - 65 + 10) (hexD_up ha hb) (by omega)
          have N := lead_next hL hjk hln (by rw [hexD_up ha hb]; omega)
          clear hc hf hL
          have R' : Hid _ := R
          clear R
          go_wp2
          go_round
          case rel => exact ⟨j + 1, N, by omega, by go_num, by rw [R'.out]⟩
          case measure => simp [intOf]; omega
        all_goals
          have N := lead_stop hL hjk (by rw [hexD_no (by omega) (by omega) (by omega)]; omega)
          have O := hexOut_stop (f := f) (show (k : Int) < count by omega)
          subst N
          clear hc hf hL
          have O' : Hid _ := O
          clear O
          go_wp2
          go_ret2
          exact ⟨ret_pair O'.out.1.symm O'.out.2.symm, rfl⟩
      · have N : j = k := by omega
        have O := hexOut_stop (f := f) (show (k : Int) < count by omega)
        subst N
        clear hf hc hL
        have O' : Hid _ := O
        clear O
        go_wp2
        go_ret2
        exact ⟨ret_pair O'.out.1.symm O'.out.2.symm, rfl⟩
    · have O := hexOut_all (f := f) hjk (show count = j by omega)
      clear hf hc hL
      have O' : Hid _ := O
      clear O
      go_wp2
      go_ret2
      exact ⟨ret_pair O'.out.1.symm O'.out.2.symm, rfl⟩

theorem hexv_none (ao : Option Addr) (n cap : Nat) (count : Int) (w : World) (h0 : count ≤ 0) :
    Calls Trym.prog 21 #[.slice ao n cap, .int .i64 count] w fun e w' => e = .returned (.tuple #[.int .i32 0, .int .i64 count]) ∧ w' = w := by
  go_enter Trym.func21, Trym.ntmps21
  go_wp2
  refine wp_loop_rounds 1 ?_
  rw [rounds_succ]
  go_wp2
  go_ret2
  exact ⟨rfl, rfl⟩

theorem hexv_empty (ao : Option Addr) (cap : Nat) (count : Int) (w : World) (h0 : 0 < count) :
    Calls Trym.prog 21 #[.slice ao 0 cap, .int .i64 count] w fun e w' => e = .returned (.tuple #[.int .i32 0, .int .i64 0]) ∧ w' = w := by
  go_enter Trym.func21, Trym.ntmps21
  go_wp2
  refine wp_loop_rounds 1 ?_
  rw [rounds_succ]
  go_wp2
  go_ret2
  exact ⟨rfl, rfl⟩

/-- hexValue, at every byte slice and every count. -/
theorem hexv_any (ao : Option Addr) (n cap k : Nat) (f : Nat → Int) (count : Int) (w : World) (hB : Bytes w ao n f) (hL : IsLead f n k) (hn : n ≤ 2000000) (h1 : count ≤ 9223372036854775807) :
    Calls Trym.prog 21 #[.slice ao n cap, .int .i64 count] w fun e w' => e = .returned (.tuple #[.int .i32 (hexR f k count), .int .i64 (hexN k count)]) ∧ w' = w := by
  by_cases h0 : 0 < count
  · rcases hB with ⟨rfl | ⟨b, rfl, hc⟩, hf⟩
    · refine (hexv_empty ao cap count w h0).mono ?_
      rintro e w' ⟨rfl, rfl⟩
      have hk : k = 0 := by have := hL.1; omega
      subst hk
      obtain ⟨a, b⟩ := hexOut_stop (f := f) (k := 0) (count := count) (by omega)
      exact ⟨ret_pair a.symm b.symm, rfl⟩
    · exact hexv_row b n cap k f count w hc hf hL hn h0 h1
  · refine (hexv_none ao n cap count w (by omega)).mono ?_
    rintro e w' ⟨rfl, rfl⟩
    have e1 : count.toNat = 0 := by omega
    exact ⟨ret_pair (by simp [hexR, e1, valF]) (by simp [hexN]; omega), rfl⟩

/-- ZZHexValue. -/
theorem zzhex_any (ao : Option Addr) (n cap k : Nat) (f : Nat → Int) (count : Int) (w : World) (hB : Bytes w ao n f) (hL : IsLead f n k) (hn : n ≤ 2000000) (h1 : count ≤ 9223372036854775807) :
    Calls Trym.prog 10 #[.slice ao n cap, .int .i64 count] w fun e w' => e = .returned (.tuple #[.int .i32 (hexR f k count), .int .i64 (hexN k count)]) ∧ w' = w := by
  go_enter Trym.func10, Trym.ntmps10
  go_wp2_with fail
  refine (hexv_any ao n cap k f count w hB hL hn h1).mono ?_
  rintro e w' ⟨rfl, rfl⟩
  go_wp2
  go_ret2
  exact ⟨rfl, rfl⟩
end Go.Proofs.Qxb6601229aMods
