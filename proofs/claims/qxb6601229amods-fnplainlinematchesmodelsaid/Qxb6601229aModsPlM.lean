/- zzb1PlainModel. -/
import Derived.Test.Qxb6601229aModsPlS
namespace Go.Proofs.Qxb6601229aMods
open Go.ChangeShapes Go.WideShapes Go.ChangeAt Go.RowKit
set_option linter.unusedVariables false

/-- The bytes from 'start' to 'e', as a string. -/
def txt (f : Nat → Int) (start e : Nat) : ByteArray := strOfNums ((List.range (e - start)).map fun i => f (start + i))

theorem conv_empty (ao : Option Addr) (c : Nat) (w : World) : (convert 22 9 (.slice ao 0 c)).run Trym.prog w = .ok (.string (strOfNums [])) w := by
  cases ao with
  | none => exact run_convert_bytes_nil w 22 5 Trym.underlying22 Trym.underlying5 0 c 9 Trym.underlying9
  | some a =>
    rw [run_convert_bytes_string w 22 9 5 _ 0 c Trym.underlying22 Trym.underlying5 Trym.underlying9, run_bytesToString w a 0 c [] (by simpa using run_loadCells_list (P := Trym.prog) w a [] (fun j v hj => by simp at hj)), foldl_push_bytes]
    simp [strOfNums, ByteArray.empty, ByteArray.emptyWithCapacity]
    rfl

theorem conv_row (b n start e : Nat) (f : Nat → Int) (c : Nat) (w : World) (hc : ∀ i, i < n → w.cell? ⟨b, i, none⟩ = some (.int .u8 (f i))) (he : e ≤ n) :
    (convert 22 9 (.slice (some ⟨b, start, none⟩) (e - start) c)).run Trym.prog w = .ok (.string (txt f start e)) w :=
  run_convert_bytes_arg w 22 5 Trym.underlying22 Trym.underlying5 b start (e - start) c _ (by simp) (fun i hi => by
    rw [hc (start + i) (by omega)]
    simp [hi]) 9 Trym.underlying9

theorem ret_line {s t : ByteArray} {a b : Int} (h1 : s = t) (h2 : a = b) : Ending.returned (.tuple #[.string s, .int .i64 a]) = .returned (.tuple #[.string t, .int .i64 b]) := by rw [h1, h2]

set_option maxHeartbeats 1000000 in
theorem pmodel_row (b n start q e : Nat) (f : Nat → Int) (flow : Bool) (w : World) (hc : ∀ i, i < n → w.cell? ⟨b, i, none⟩ = some (.int .u8 (f i))) (hn : n ≤ 2000000) (hs : start < n) (hE : IsEnd f n start flow q e) :
    Calls Trym.prog 16 #[.slice (some ⟨b, 0, none⟩) n n, .int .i64 start, .bool flow] w fun r w' => r = .returned (.tuple #[.string (txt f start e), .int .i64 e]) ∧ w' = w := by
  obtain ⟨h1, h2, h3, h4, h5, h6, h7⟩ := hE
  have H4 : Hid _ := h4
  have H5 : Hid _ := h5
  have H6 : Hid _ := h6
  have H7 : Hid _ := h7
  have HC : Hid _ := hc
  clear h4 h5 h6 h7 hc
  have hne : ¬ n = start := by omega
  go_enter Trym.func16, Trym.ntmps16
  go_wp2
  go_loop [8] (fun i => ∃ j : Nat, start ≤ j ∧ j ≤ q ∧ i = .int .i64 j) (fun i => (n - intOf i).toNat)
  case atStart => exact ⟨start, Nat.le_refl _, by omega, rfl⟩
  case round =>
    obtain ⟨j, hj1, hj2, rfl⟩ := hrel
    by_cases hjq : j < q
    · have hst := H4.out j hj1 hjq
      go_wp2_with fail
      refine (stops_any b n _ j f flow w HC.out hn (by omega)).mono ?_
      rintro e w' ⟨rfl, hw'⟩
      obtain rfl := hw'.symm
      go_wp2
      go_round
      case rel => exact ⟨j + 1, by omega, by omega, by go_num⟩
      case measure => simp [intOf]; omega
    · obtain rfl : j = q := by omega
      have hcv := conv_row b n start e f (n - start) w HC.out (by omega)
      have HV : Hid _ := hcv
      clear hcv
      by_cases hqn : j < n
      · have hst := H5.out hqn
        go_wp2_with fail
        refine (stops_any b n _ j f flow w HC.out hn (by omega)).mono ?_
        rintro e w' ⟨rfl, hw'⟩
        obtain rfl := hw'.symm
        go_wp2
        go_loop [9] (fun i => ∃ k : Nat, e ≤ k ∧ k ≤ j ∧ i = .int .i64 k) (fun i => (intOf i).toNat)
        case atStart => exact ⟨j, by omega, Nat.le_refl _, rfl⟩
        case round =>
          obtain ⟨k, hk1, hk2, rfl⟩ := hrel
          by_cases hke : e < k
          · have hck := HC.out (k - 1) (by omega)
            have hbl := H6.out (k - 1) (by omega) (by omega)
            go_wp2_with fail
            refine (zzBlank_any _ _).mono ?_
            rintro e w' ⟨rfl, hw'⟩
            obtain rfl := hw'.symm
            go_wp2
            go_round
            case rel => exact ⟨k - 1, by omega, by omega, by go_num⟩
            case measure => simp [intOf]; omega
          · obtain rfl : k = e := by omega
            by_cases hse : start < k
            · have hck := HC.out (k - 1) (by omega)
              have hbl := H7.out hse
              have hcv := HV.out
              go_wp2_with fail
              refine (zzBlank_any _ _).mono ?_
              rintro e w' ⟨rfl, hw'⟩
              obtain rfl := hw'.symm
              go_wp2
              go_ret2
              exact ⟨rfl, rfl⟩
            · have hcv := HV.out
              go_wp2
              go_ret2
              exact ⟨rfl, rfl⟩
      · go_wp2
        go_loop [9] (fun i => ∃ k : Nat, e ≤ k ∧ k ≤ j ∧ i = .int .i64 k) (fun i => (intOf i).toNat)
        case atStart => exact ⟨j, by omega, Nat.le_refl _, rfl⟩
        case round =>
          obtain ⟨k, hk1, hk2, rfl⟩ := hrel
          by_cases hke : e < k
          · have hck := HC.out (k - 1) (by omega)
            have hbl := H6.out (k - 1) (by omega) (by omega)
            go_wp2_with fail
            refine (zzBlank_any _ _).mono ?_
            rintro e w' ⟨rfl, hw'⟩
            obtain rfl := hw'.symm
            go_wp2
            go_round
            case rel => exact ⟨k - 1, by omega, by omega, by go_num⟩
            case measure => simp [intOf]; omega
          · obtain rfl : k = e := by omega
            by_cases hse : start < k
            · have hck := HC.out (k - 1) (by omega)
              have hbl := H7.out hse
              have hcv := HV.out
              go_wp2_with fail
              refine (zzBlank_any _ _).mono ?_
              rintro e w' ⟨rfl, hw'⟩
              obtain rfl := hw'.symm
              go_wp2
              go_ret2
              exact ⟨rfl, rfl⟩
            · have hcv := HV.out
              go_wp2
              go_ret2
              exact ⟨rfl, rfl⟩

theorem pmodel_end (ao : Option Addr) (n : Nat) (flow : Bool) (w : World) (hn : n ≤ 2000000) :
    Calls Trym.prog 16 #[.slice ao n n, .int .i64 n, .bool flow] w fun r w' => r = .returned (.tuple #[.string (strOfNums []), .int .i64 n]) ∧ w' = w := by
  have hcv := conv_empty ao 0 w
  go_enter Trym.func16, Trym.ntmps16
  go_wp2
  refine wp_loop_rounds 1 ?_
  rw [rounds_succ]
  go_wp2
  refine wp_loop_rounds 1 ?_
  rw [rounds_succ]
  go_wp2
  go_ret2
  exact ⟨rfl, rfl⟩

/-- zzb1PlainModel, from whatever place inside. -/
theorem pmodel_any (ao : Option Addr) (n start q e : Nat) (f : Nat → Int) (flow : Bool) (w : World) (hB : Bytes w ao n f) (hn : n ≤ 2000000) (hE : IsEnd f n start flow q e) :
    Calls Trym.prog 16 #[.slice ao n n, .int .i64 start, .bool flow] w fun r w' => r = .returned (.tuple #[.string (txt f start e), .int .i64 e]) ∧ w' = w := by
  by_cases hs : start < n
  · rcases hB with ⟨rfl | ⟨b, rfl, hc⟩, hf⟩
    · omega
    · exact pmodel_row b n start q e f flow w hc hn hs hE
  · have h1 : start = n := by have := hE.1; have := hE.2.1; have := hE.2.2.1; omega
    have h2 : e = n := by have := hE.1; have := hE.2.1; have := hE.2.2.1; omega
    subst h1 h2
    refine (pmodel_end ao _ flow w hn).mono ?_
    rintro r w' ⟨rfl, rfl⟩
    exact ⟨ret_line (by simp [txt]) rfl, rfl⟩
end Go.Proofs.Qxb6601229aMods
