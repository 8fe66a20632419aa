/- cloneAttrsCcB1. -/
import Derived.Test.Qxb6602809aModsRows2
namespace Go.Proofs.Qxb6602809aMods
open Go.ChangeShapes Go.WideShapes Go.ChangeAt Go.RowKit
set_option linter.unusedVariables false

theorem Trym.info48 : (Trym.prog.info? 48).map (fun i => (i.zero, i.size, i.bytes)) = some (some (.slice none 0 0), 1, 24) := by kernel_rfl
theorem Trym.info53 : (Trym.prog.info? 53).map (fun i => (i.zero, i.size, i.bytes)) = some (some (.agg #[.string ByteArray.empty, .string ByteArray.empty, .string ByteArray.empty, .bool false]), 4, 56) := by kernel_rfl

/-- 'make([]T, M)', T of four cells. -/
theorem make4 {ts te : TypeId} (hu : Trym.prog.underlying ts = some (.slice te)) (hinfo : (Trym.prog.info? te).map (fun i => (i.zero, i.size, i.bytes)) = some (some (.agg #[.string ByteArray.empty, .string ByteArray.empty, .string ByteArray.empty, .bool false]), 4, 56)) (M : Nat) (hM : M ≤ 1048576) (w : World) :
    (Instr.makeSlice ts (.int .i64 (M : Int)) (.int .i64 (M : Int))).run Trym.prog w = .ok (.slice (some ⟨w.heap.size, 0, none⟩) M M) (w.alloc (.cells (madeCells #[.string ByteArray.empty, .string ByteArray.empty, .string ByteArray.empty, .bool false] (M * 4)) te)) := by
  obtain ⟨i, hi, hz0, hz1, hz2⟩ := info_parts hinfo
  have := run_make (P := Trym.prog) w ts te i _ hu hi hz0 .i64 .i64 M M (by omega) (by omega) (by rw [hz2]; omega) (by omega)
  rw [this, hz1]
  simp [Value.cells]

theorem made4_row (w : World) (te : TypeId) (M : Nat) : ∃ X, (w.alloc (.cells (madeCells #[.string ByteArray.empty, .string ByteArray.empty, .string ByteArray.empty, .bool false] (M * 4)) te)).rowIs w.heap.size te (M * 4) X := by
  have hsz : (madeCells #[Value.string ByteArray.empty, .string ByteArray.empty, .string ByteArray.empty, .bool false] (M * 4)).size = M * 4 := size_madeCells _ _
  have := World.rowIs_alloc w (madeCells #[.string ByteArray.empty, .string ByteArray.empty, .string ByteArray.empty, .bool false] (M * 4)) te (fun i => ((madeCells #[Value.string ByteArray.empty, .string ByteArray.empty, .string ByteArray.empty, .bool false] (M * 4))[i]?).getD undef) (fun i hi => by
    rw [Array.getElem?_eq_getElem hi]; rfl)
  rw [hsz] at this
  exact ⟨_, this⟩

theorem cloneA_nil (w : World) : Calls Trym.prog 28 #[.slice none 0 0] w fun e w' => e = .returned (.slice none 0 0) ∧ w' = w := by
  have q41 : ∀ (w : World) (a : Option Addr) (n c n' c' : Nat), (binOp .eql 41 (.slice a n c) (.slice none n' c')).run Trym.prog w = .ok (.bool a.isNone) w := fun w a n c n' c' => Lib.run_eql_slice_nil w _ _ a n c n' c' Trym.underlying41
  go_enter Trym.func28, Trym.ntmps28
  go_wp2
  go_ret
  exact ⟨rfl, rfl⟩

set_option maxHeartbeats 2000000 in
set_option maxRecDepth 20000 in
theorem cloneA_some (x : Addr) (n c : Nat) (m : Nat → Nat) (T : Nat → Nat → ByteArray) (w : World) (h : Subj w (some x) n m T) (hn : n ≤ 1048576) (hm : ∀ i, i < n → m i ≤ 1048576) :
    Calls Trym.prog 28 #[.slice (some x) n c] w fun e w' => SubjOut e n m T w' ∧ Below w.heap.size w w' := by
  have H : Hid (Subj w (some x) n m T) := h
  have HM : Hid (∀ i, i < n → m i ≤ 1048576) := hm
  clear h hm
  have q41 : ∀ (w : World) (a : Option Addr) (n c n' c' : Nat), (binOp .eql 41 (.slice a n c) (.slice none n' c')).run Trym.prog w = .ok (.bool a.isNone) w := fun w a n c n' c' => Lib.run_eql_slice_nil w _ _ a n c n' c' Trym.underlying41
  have hmk := run_make_row' (P := Trym.prog) 41 48 (.slice none 0 0) 24 Trym.underlying41 Trym.info48 rfl .i64 .i64 n (by omega) (by omega)
  go_enter Trym.func28, Trym.ntmps28
  go_wp2
  clear hmk q41
  have q48 : ∀ (w : World) (a : Option Addr) (n c n' c' : Nat), (binOp .eql 48 (.slice a n c) (.slice none n' c')).run Trym.prog w = .ok (.bool a.isNone) w := fun w a n c n' c' => Lib.run_eql_slice_nil w _ _ a n c n' c' Trym.underlying48
  go_loopg [4] n (fun g i wr => ∃ (k : Nat), g = n - k ∧ k ≤ n ∧ i = .int .i64 k ∧ Built w.heap.size n 48 m T w wr k)
  case atStart => exact ⟨0, rfl, Nat.zero_le _, rfl, Built.start w⟩
  case round =>
    obtain ⟨k, rfl, hk, rfl, hBt⟩ := hrel
    have HB : Hid (Built w.heap.size n 48 m T w wr k) := hBt
    by_cases hlt : k < n
    · obtain ⟨b, off, ea, hc⟩ := H.out (by omega)
      obtain rfl : x = ⟨b, off, none⟩ := by simpa using ea
      clear ea
      obtain ⟨ra, rc, hrc0, hrow⟩ := hc k hlt
      have hmk' := HM.out k hlt
      have hrc : wr.cell? ⟨b, off + k, none⟩ = some (.slice ra (m k) rc) := (hBt.below.cell (World.block_lt_of_cell? _ _ hrc0)).trans hrc0
      have hL : Hid (RowAt wr ra (m k) (T k)) := hrow.below hBt.below
      clear hc hrc0 hrow
      obtain ⟨M, hM⟩ : ∃ M, M = m k := ⟨_, rfl⟩
      have HMM : Hid (M = m k) := hM
      rw [← hM] at hmk' hrc hL
      clear hM hBt
      have hG : w.heap.size < wr.heap.size := by obtain ⟨_, V, hr, _⟩ := HB.out; exact hr.lt
      cases ra with
      | none =>
        have hM0 : Hid (M = 0) := by
          rcases Nat.eq_zero_or_pos M with h | h
          · exact h
          · obtain ⟨b, off, e, _⟩ := hL.out (by omega); cases e
        go_wp2
        go_roundg (n - (k + 1))
        case measure => omega
        case rel => exact ⟨k + 1, rfl, by omega, by go_num, HB.out.skip hlt (by rw [← HMM.out]; exact hM0.out)⟩
      | some y =>
        have hmk4 := make4 Trym.underlying48 Trym.info53 M hmk'
        have hlb : b < wr.heap.size := World.block_lt_of_cell? _ _ hrc
        go_wp2
        clear hmk4
        obtain ⟨wo, hwo⟩ : ∃ wo : World, wo = wr := ⟨_, rfl⟩
        subst hwo
        go_loopg [6] M (fun g j wi => ∃ (t : Nat) (X : Nat → Value), g = M - t ∧ t ≤ M ∧ j = .int .i64 t ∧ Below wo.heap.size wo wi ∧ wi.rowIs wo.heap.size 53 (M * 4) X ∧ Done X (T k) t)
        case atStart =>
          obtain ⟨X, hX⟩ := made4_row wo 53 M
          exact ⟨0, X, rfl, Nat.zero_le _, rfl, (Below.refl _ _).alloc (Nat.le_refl _) _, hX, fun q h => by omega⟩
        case round =>
          obtain ⟨t, X, rfl, ht, rfl, hbi, hri, hdn⟩ := hrel
          obtain ⟨wi, hwi⟩ : ∃ wi : World, wi = wr := ⟨_, rfl⟩
          subst hwi
          have hrc' : wi.cell? ⟨b, off + k, none⟩ = some (.slice (some y) M rc) := (hbi.cell hlb).trans hrc
          have HBI : Hid (Below wo.heap.size wo wi) := hbi
          have HRI : Hid (wi.rowIs wo.heap.size 53 (M * 4) X) := hri
          have HDN : Hid (Done X (T k) t) := hdn
          by_cases hti : t < M
          · obtain ⟨rb, ro, era, hat⟩ := hL.out (by omega)
            obtain rfl : y = ⟨rb, ro, none⟩ := by simpa using era
            clear era
            obtain ⟨a0, v, x, cc, a1, a2, a3⟩ := (hat t hti).below hbi
            have s0 := hri.cell (i := t * 4) (by omega)
            have s1 := hri.cell (i := t * 4 + 1) (by omega)
            have s2 := hri.cell (i := t * 4 + 2) (by omega)
            have s3 := hri.cell (i := t * 4 + 3) (by omega)
            have f0 := hri.frozen (t * 4)
            have f1 := hri.frozen (t * 4 + 1)
            have f2 := hri.frozen (t * 4 + 2)
            have f3 := hri.frozen (t * 4 + 3)
            clear hat hbi hri hdn hrc
            go_wp2
            go_roundg (M - (t + 1))
            case measure => omega
            case rel => exact ⟨t + 1, _, rfl, by omega, by go_num, (((HBI.out.setCell (by simp) _).setCell (by simp) _).setCell (by simp) _).setCell (by simp) _, (((HRI.out.set (t * 4) _).set (t * 4 + 1) _).set (t * 4 + 2) _).set (t * 4 + 3) _, done_step HDN.out v x cc⟩
          · obtain rfl : t = M := by omega
            obtain ⟨V, hV⟩ : ∃ V, wo.rowIs w.heap.size 48 n V := by obtain ⟨_, V, hr, _⟩ := HB.out; exact ⟨V, hr⟩
            have cG : wi.cell? ⟨w.heap.size, k, none⟩ = some (V k) := (hbi.cell hG).trans (hV.cell hlt)
            have fG : wi.frozen? ⟨w.heap.size, k, none⟩ = false := (hbi.frozen hG).trans (hV.frozen k)
            clear hbi hri hdn hrc hV
            go_wp2
            go_roundg (n - (k + 1))
            case measure => omega
            case rel => exact ⟨k + 1, rfl, by omega, by go_num, HB.out.put hlt HMM.out (Nat.le_refl _) HBI.out HRI.out HDN.out⟩
    · obtain rfl : k = n := by omega
      clear hBt
      go_wp2
      go_ret
      exact ⟨⟨_, _, rfl, HB.out.done, fun h => by cases h⟩, HB.out.below⟩

/-- cloneAttrsCcB1, at every subject. -/
theorem cloneA_any (a : Option Addr) (n c : Nat) (m : Nat → Nat) (T : Nat → Nat → ByteArray) (w : World) (h : Subj w a n m T) (hnil : a = none → n = 0 ∧ c = 0) (hn : n ≤ 1048576) (hm : ∀ i, i < n → m i ≤ 1048576) :
    Calls Trym.prog 28 #[.slice a n c] w fun e w' => SubjOut e n m T w' ∧ Below w.heap.size w w' := by
  cases a with
  | none =>
    obtain ⟨rfl, rfl⟩ := hnil rfl
    refine (cloneA_nil w).mono ?_
    rintro e w' ⟨rfl, rfl⟩
    exact ⟨⟨_, _, rfl, fun h => absurd rfl h, fun _ => ⟨rfl, rfl⟩⟩, Below.refl _ _⟩
  | some x => exact cloneA_some x n c m T w h hn hm
end Go.Proofs.Qxb6602809aMods
