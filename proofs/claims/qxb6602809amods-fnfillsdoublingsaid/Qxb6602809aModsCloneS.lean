/- cloneStringsCcB1. -/
import Derived.Test.Qxb6602809aModsBase
namespace Go.Proofs.Qxb6602809aMods
open Go.ChangeShapes Go.WideShapes Go.ChangeAt Go.RowKit
set_option linter.unusedVariables false

theorem Trym.info9 : (Trym.prog.info? 9).map (fun i => (i.zero, i.size, i.bytes)) = some (some (.string ByteArray.empty), 1, 16) := by kernel_rfl

/-- A slice of strings handed back. -/
structure StrsOut (e : Ending) (n : Nat) (w : World) : Prop where
  out : ∃ a c, e = .returned (.slice a n c) ∧ Strs w a n

theorem strs_row {w : World} {b n : Nat} {f : Nat → Value} (h : w.rowIs b 9 n f) (hs : ∀ i, i < n → ∃ s, f i = .string s) : Strs w (some ⟨b, 0, none⟩) n := fun _ =>
  ⟨b, 0, rfl, fun i hi => by obtain ⟨s, e⟩ := hs i hi; exact ⟨s, by rw [Nat.zero_add, h.cell hi, e]⟩⟩

set_option maxHeartbeats 800000 in
theorem cloneS_any (a : Option Addr) (n c : Nat) (w : World) (h : Strs w a n) (hn : n ≤ 1048576) : Calls Trym.prog 27 #[.slice a n c] w fun e w' => StrsOut e n w' ∧ Below w.heap.size w w' := by
  have H : Hid (Strs w a n) := h
  clear h
  have q33 : ∀ (w : World) (a : Option Addr) (n c n' c' : Nat), (binOp .eql 33 (.slice a n c) (.slice none n' c')).run Trym.prog w = .ok (.bool a.isNone) w := fun w a n c n' c' => Lib.run_eql_slice_nil w _ _ a n c n' c' Trym.underlying33
  have hmk := run_make_row' (P := Trym.prog) 33 9 (.string ByteArray.empty) 16 Trym.underlying33 Trym.info9 rfl .i64 .i64 n (by omega) (by omega)
  cases a with
  | none =>
    have hn0 : n = 0 := by
      rcases Nat.eq_zero_or_pos n with h | h
      · exact h
      · obtain ⟨b, off, e, _⟩ := H.out (by omega); cases e
    have HN : Hid (n = 0) := hn0
    clear hn0
    go_enter Trym.func27, Trym.ntmps27
    go_wp2
    go_ret
    exact ⟨⟨_, _, by rw [HN.out]; rfl, fun h => absurd HN.out h⟩, Below.refl _ _⟩
  | some x =>
    go_enter Trym.func27, Trym.ntmps27
    go_wp2
    go_loopg [4] n (fun g i wr => ∃ (k : Nat) (f : Nat → Value), g = n - k ∧ k ≤ n ∧ i = .int .i64 k ∧ Below w.heap.size w wr ∧ wr.rowIs w.heap.size 9 n f ∧ ∀ i, i < n → ∃ s, f i = .string s)
    case atStart => exact ⟨0, _, rfl, Nat.zero_le _, rfl, (Below.refl _ _).alloc (Nat.le_refl _) _, World.rowIs_made w (.string ByteArray.empty) n 9, fun i _ => ⟨_, rfl⟩⟩
    case round =>
      obtain ⟨k, f, rfl, hk, rfl, hb, hrow, hstr⟩ := hrel
      have HB : Hid (Below w.heap.size w wr) := hb
      have HR : Hid (wr.rowIs w.heap.size 9 n f) := hrow
      have HF : Hid (∀ i, i < n → ∃ s, f i = .string s) := hstr
      by_cases hlt : k < n
      · obtain ⟨b, off, ea, hc⟩ := H.out (by omega)
        obtain rfl : x = ⟨b, off, none⟩ := by simpa using ea
        clear ea
        obtain ⟨s, hs⟩ := hc k hlt
        have hsr : wr.cell? ⟨b, off + k, none⟩ = some (.string s) := (hb.cell (World.block_lt_of_cell? _ _ hs)).trans hs
        have hcell := hrow.cell hlt
        have hfr := hrow.frozen k
        clear hs hc hb hrow hstr hmk
        go_wp2
        go_roundg (n - (k + 1))
        case measure => omega
        case rel => exact ⟨k + 1, _, rfl, by omega, by go_num, HB.out.setCell (by simp) _, HR.out.set k _, fun i hi => by
          by_cases e : i = k
          · exact ⟨s, by simp [e]⟩
          · obtain ⟨s', h'⟩ := HF.out i hi
            exact ⟨s', by simp [e, h']⟩⟩
      · clear hb hrow hstr hmk
        go_wp2
        go_ret
        exact ⟨⟨_, _, rfl, strs_row HR.out HF.out⟩, HB.out⟩
end Go.Proofs.Qxb6602809aMods
