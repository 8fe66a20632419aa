/- replicasDomain, brokersIncreasing, the clones. -/
import Derived.Test.Qxb6602780aModsRepl
namespace Go.Proofs.Qxb6602780aMods
open Go.ChangeShapes Go.WideShapes Go.ChangeAt Go.RowKit
set_option linter.unusedVariables false

set_option maxHeartbeats 400000 in
theorem clone32 (b off n cap : Nat) (Z : Nat → Int) (w : World) (hn : n ≤ 4096) (hc : ∀ i, i < n → w.cell? ⟨b, off + i, none⟩ = some (.int .i32 (Z i))) :
    Calls Trym.prog 12 #[.slice (some ⟨b, off, none⟩) n cap] w fun e w' => e = .returned (.slice (some ⟨w.heap.size, 0, none⟩) n n) ∧ w'.rowIs w.heap.size 21 n (fun i => .int .i32 (Z i)) ∧ Below w.heap.size w w' := by
  have q25 : ∀ (w : World) (a : Option Addr) (n c n' c' : Nat), (binOp .eql 25 (.slice a n c) (.slice none n' c')).run Trym.prog w = .ok (.bool a.isNone) w := fun w a n c n' c' => Lib.run_eql_slice_nil w _ _ a n c n' c' Trym.underlying25
  have hmk := run_make_row' (P := Trym.prog) 25 21 (.int .i32 0) 4 Trym.underlying25 Trym.info21 rfl .i64 .i64 n (by omega) (by omega)
  go_enter Trym.func12, Trym.ntmps12
  go_wp2
  go_loopw [4] (fun i wr => ∃ k : Nat, k ≤ n ∧ i = .int .i64 k ∧ Below w.heap.size w wr ∧ wr.rowIs w.heap.size 21 n (fun j => if j < k then .int .i32 (Z j) else .int .i32 0)) (fun i _ => n - (intOf i).toNat)
  case atStart =>
    refine ⟨0, Nat.zero_le _, rfl, (Below.refl _ _).alloc (Nat.le_refl _) _, ?_⟩
    exact (World.rowIs_made w (.int .i32 0) n 21).congr (fun i hi => by simp)
  case round =>
    obtain ⟨k, hk, rfl, hb, hrow⟩ := hrel
    by_cases hlt : k < n
    · have hcb : w.cell? ⟨b, off + k, none⟩ = some (.int .i32 (Z k)) := hc k hlt
      have hcr : wr.cell? ⟨b, off + k, none⟩ = some (.int .i32 (Z k)) := (hb.cell (World.block_lt_of_cell? _ _ hcb)).trans hcb
      have hcell := hrow.cell hlt
      have hfr := hrow.frozen k
      clear hcb
      go_wp2
      go_roundw
      case rel =>
        refine ⟨k + 1, by omega, by go_num, hb.setCell (by simp) _, (hrow.set k _).congr fun j hj => ?_⟩
        by_cases e : j = k
        · subst e; simp
        · by_cases e2 : j < k
          · rw [if_neg e, if_pos e2, if_pos (by omega)]
          · rw [if_neg e, if_neg e2, if_neg (by omega)]
      case measure => simp [intOf]; omega
    · go_wp2
      go_ret
      exact ⟨rfl, hrow.congr fun j hj => by rw [if_pos (by omega)], hb⟩

theorem Trym.info3' : (Trym.prog.info? 3).map (fun i => (i.zero, i.size, i.bytes)) = some (some (.int .i64 0), 1, 8) := by kernel_rfl

set_option maxHeartbeats 400000 in
theorem clone64 (b off n cap : Nat) (Z : Nat → Int) (w : World) (hn : n ≤ 4096) (hc : ∀ i, i < n → w.cell? ⟨b, off + i, none⟩ = some (.int .i64 (Z i))) :
    Calls Trym.prog 13 #[.slice (some ⟨b, off, none⟩) n cap] w fun e w' => e = .returned (.slice (some ⟨w.heap.size, 0, none⟩) n n) ∧ w'.rowIs w.heap.size 3 n (fun i => .int .i64 (Z i)) ∧ Below w.heap.size w w' := by
  have q26 : ∀ (w : World) (a : Option Addr) (n c n' c' : Nat), (binOp .eql 26 (.slice a n c) (.slice none n' c')).run Trym.prog w = .ok (.bool a.isNone) w := fun w a n c n' c' => Lib.run_eql_slice_nil w _ _ a n c n' c' Trym.underlying26
  have hmk := run_make_row' (P := Trym.prog) 26 3 (.int .i64 0) 8 Trym.underlying26 Trym.info3' rfl .i64 .i64 n (by omega) (by omega)
  go_enter Trym.func13, Trym.ntmps13
  go_wp2
  go_loopw [4] (fun i wr => ∃ k : Nat, k ≤ n ∧ i = .int .i64 k ∧ Below w.heap.size w wr ∧ wr.rowIs w.heap.size 3 n (fun j => if j < k then .int .i64 (Z j) else .int .i64 0)) (fun i _ => n - (intOf i).toNat)
  case atStart =>
    refine ⟨0, Nat.zero_le _, rfl, (Below.refl _ _).alloc (Nat.le_refl _) _, ?_⟩
    exact (World.rowIs_made w (.int .i64 0) n 3).congr (fun i hi => by simp)
  case round =>
    obtain ⟨k, hk, rfl, hb, hrow⟩ := hrel
    by_cases hlt : k < n
    · have hcb : w.cell? ⟨b, off + k, none⟩ = some (.int .i64 (Z k)) := hc k hlt
      have hcr : wr.cell? ⟨b, off + k, none⟩ = some (.int .i64 (Z k)) := (hb.cell (World.block_lt_of_cell? _ _ hcb)).trans hcb
      have hcell := hrow.cell hlt
      have hfr := hrow.frozen k
      clear hcb
      go_wp2
      go_roundw
      case rel =>
        refine ⟨k + 1, by omega, by go_num, hb.setCell (by simp) _, (hrow.set k _).congr fun j hj => ?_⟩
        by_cases e : j = k
        · subst e; simp
        · by_cases e2 : j < k
          · rw [if_neg e, if_pos e2, if_pos (by omega)]
          · rw [if_neg e, if_neg e2, if_neg (by omega)]
      case measure => simp [intOf]; omega
    · go_wp2
      go_ret
      exact ⟨rfl, hrow.congr fun j hj => by rw [if_pos (by omega)], hb⟩

/-- The domain's loop: every lead lies between 0 and 2^30. -/
def LeadsOk (Z : Nat → Int) (n : Nat) : Prop := ∀ i, i < n → 0 ≤ Z i ∧ Z i ≤ 1073741824

set_option maxHeartbeats 800000 in
theorem dom_loop (a0 a2 : Option Addr) (b off n c0 c1 c2 : Nat) (p r : Int) (Z : Nat → Int) (R : Bool) (w : World) (hn1 : 1 ≤ n) (hn : n ≤ 4096) (hp0 : 0 ≤ p) (hp : p ≤ 65536) (hr1 : 1 ≤ r) (hrn : r ≤ n) (hx : p * r ≤ 1048576)
    (hc : ∀ i, i < n → w.cell? ⟨b, off + i, none⟩ = some (.int .i64 (Z i))) (hR : R = true ↔ LeadsOk Z n) :
    Calls Trym.prog 21 #[.slice a0 n c0, .slice (some ⟨b, off, none⟩) n c1, .slice a2 n c2, .int .i64 p, .int .i64 r] w fun e w' => e = .returned (.bool R) ∧ w' = w := by
  have HR : Hid (R = true ↔ LeadsOk Z n) := hR
  have hpr : 0 ≤ p * r := Int.mul_nonneg hp0 (by omega)
  obtain ⟨x, hxe⟩ : ∃ x, x = p * r := ⟨_, rfl⟩
  rw [← hxe] at hx hpr
  have e1 : IntKind.i64.wrap (p * r) = x := by rw [← hxe]; exact wrap_id (by omega) (by omega)
  have e2 : wrap64 (p * r) = x := by rw [← hxe]; unfold wrap64; omega
  clear hR hxe
  go_enter Trym.func21, Trym.ntmps21
  go_wp2
  go_loop [12] (fun i => ∃ k : Nat, k ≤ n ∧ i = .int .i64 k ∧ ∀ j, j < k → 0 ≤ Z j ∧ Z j ≤ 1073741824) (fun i => n - (intOf i).toNat)
  case atStart => exact ⟨0, Nat.zero_le _, rfl, fun j h => by omega⟩
  case round =>
    obtain ⟨k, hk, rfl, hok⟩ := hrel
    have HO : Hid (∀ j, j < k → 0 ≤ Z j ∧ Z j ≤ 1073741824) := hok
    clear hok
    by_cases hlt : k < n
    · have hck := hc k hlt
      by_cases hz : 0 ≤ Z k ∧ Z k ≤ 1073741824
      · obtain ⟨hz0, hz1⟩ := hz
        go_wp2
        go_round
        case rel => exact ⟨k + 1, by omega, by go_num, fun j hj => by
          by_cases e : j = k
          · subst e; exact ⟨hz0, hz1⟩
          · exact HO.out j (by omega)⟩
        case measure => simp [intOf]; omega
      · have hRf : Hid (R = false) := by
          cases hr' : R with
          | false => rfl
          | true => exact absurd (HR.out.1 hr' k hlt) hz
        have hz' : Z k < 0 ∨ 1073741824 < Z k := by omega
        clear hz HR
        rcases hz' with hz | hz
        all_goals
          go_wp2
          go_ret
          exact ⟨retB hRf.out.symm, rfl⟩
    · have hRt : Hid (R = true) := HR.out.2 (fun i hi => HO.out i (by omega))
      clear HR HO
      go_wp2
      go_ret
      exact ⟨retB hRt.out.symm, rfl⟩

theorem dom_no1 (a0 a1 a2 : Option Addr) (n0 n1 n2 c0 c1 c2 : Nat) (p r : Int) (w : World) (h0 : 2 ≤ n0) (h : n1 ≠ n0 ∨ n2 ≠ n0) :
    Calls Trym.prog 21 #[.slice a0 n0 c0, .slice a1 n1 c1, .slice a2 n2 c2, .int .i64 p, .int .i64 r] w fun e w' => e = .returned (.bool false) ∧ w' = w := by
  by_cases h1 : n1 = n0
  · subst h1
    have h2 : ((n2 : Int) != (n1 : Int)) = true := by simp; omega
    clear h
    go_enter Trym.func21, Trym.ntmps21
    go_wp2
    go_ret
    exact ⟨rfl, rfl⟩
  · have h2 : ((n1 : Int) != (n0 : Int)) = true := by simp; omega
    clear h h1
    go_enter Trym.func21, Trym.ntmps21
    go_wp2
    go_ret
    exact ⟨rfl, rfl⟩

theorem dom_no2 (a0 a1 a2 : Option Addr) (n c0 c1 c2 : Nat) (p r : Int) (w : World) (hn1 : 1 ≤ n) (h : p < 0 ∨ 65536 < p ∨ r < 1 ∨ (n : Int) < r) :
    Calls Trym.prog 21 #[.slice a0 n c0, .slice a1 n c1, .slice a2 n c2, .int .i64 p, .int .i64 r] w fun e w' => e = .returned (.bool false) ∧ w' = w := by
  by_cases h1 : p < 0
  · clear h
    go_enter Trym.func21, Trym.ntmps21
    go_wp2
    go_ret
    exact ⟨rfl, rfl⟩
  · by_cases h2 : 65536 < p
    · clear h
      go_enter Trym.func21, Trym.ntmps21
      go_wp2
      go_ret
      exact ⟨rfl, rfl⟩
    · by_cases h3 : r < 1
      · clear h
        go_enter Trym.func21, Trym.ntmps21
        go_wp2
        go_ret
        exact ⟨rfl, rfl⟩
      · have h4 : (n : Int) < r := by omega
        clear h
        go_enter Trym.func21, Trym.ntmps21
        go_wp2
        go_ret
        exact ⟨rfl, rfl⟩

theorem dom_no3 (a0 a1 a2 : Option Addr) (n c0 c1 c2 : Nat) (p r : Int) (w : World) (hn1 : 1 ≤ n) (hn : n ≤ 4096) (hp0 : 0 ≤ p) (hp : p ≤ 65536) (hr1 : 1 ≤ r) (hrn : r ≤ n) (hx : 1048576 < p * r) :
    Calls Trym.prog 21 #[.slice a0 n c0, .slice a1 n c1, .slice a2 n c2, .int .i64 p, .int .i64 r] w fun e w' => e = .returned (.bool false) ∧ w' = w := by
  have hle : p * r ≤ 65536 * 4096 := Int.le_trans (Int.mul_le_mul_of_nonneg_right hp (by omega)) (Int.mul_le_mul_of_nonneg_left (by omega) (by decide))
  obtain ⟨x, hxe⟩ : ∃ x, x = p * r := ⟨_, rfl⟩
  rw [← hxe] at hx hle
  have e1 : IntKind.i64.wrap (p * r) = x := by rw [← hxe]; exact wrap_id (by omega) (by omega)
  have e2 : wrap64 (p * r) = x := by rw [← hxe]; unfold wrap64; omega
  clear hxe
  go_enter Trym.func21, Trym.ntmps21
  go_wp2
  go_ret
  exact ⟨rfl, rfl⟩

/-- What the domain is. -/
def Dom (n0 n1 n2 : Nat) (p r : Int) (Z : Nat → Int) : Prop := n1 = n0 ∧ n2 = n0 ∧ 0 ≤ p ∧ p ≤ 65536 ∧ 1 ≤ r ∧ r ≤ n0 ∧ p * r ≤ 1048576 ∧ LeadsOk Z n0

/-- replicasDomain, at slices of at least two and at most 4096. -/
theorem dom_any (a0 a1 a2 : Option Addr) (n0 n1 n2 c0 c1 c2 : Nat) (p r : Int) (Z : Nat → Int) (R : Bool) (w : World) (h2 : 2 ≤ n0) (hn : n0 ≤ 4096) (hc : n1 ≠ 0 → ∃ b off, a1 = some ⟨b, off, none⟩ ∧ ∀ i, i < n1 → w.cell? ⟨b, off + i, none⟩ = some (.int .i64 (Z i))) (hR : R = true ↔ Dom n0 n1 n2 p r Z) :
    Calls Trym.prog 21 #[.slice a0 n0 c0, .slice a1 n1 c1, .slice a2 n2 c2, .int .i64 p, .int .i64 r] w fun e w' => e = .returned (.bool R) ∧ w' = w := by
  have hno : ¬ Dom n0 n1 n2 p r Z → R = false := fun h => by
    cases hr : R with
    | false => rfl
    | true => exact absurd (hR.1 hr) h
  by_cases e1 : n1 ≠ n0 ∨ n2 ≠ n0
  · rw [hno (fun d => by rcases e1 with h | h; exact h d.1; exact h d.2.1)]
    exact dom_no1 a0 a1 a2 n0 n1 n2 c0 c1 c2 p r w h2 e1
  · obtain rfl : n1 = n0 := by omega
    obtain rfl : n2 = n1 := by omega
    by_cases e2 : p < 0 ∨ 65536 < p ∨ r < 1 ∨ (n2 : Int) < r
    · rw [hno (fun d => by obtain ⟨_, _, d1, d2, d3, d4, _⟩ := d; omega)]
      exact dom_no2 a0 a1 a2 n2 c0 c1 c2 p r w (by omega) e2
    · by_cases e3 : 1048576 < p * r
      · rw [hno (fun d => by obtain ⟨_, _, d1, d2, d3, d4, d5, _⟩ := d; omega)]
        exact dom_no3 a0 a1 a2 n2 c0 c1 c2 p r w (by omega) hn (by omega) (by omega) (by omega) (by omega) e3
      · obtain ⟨b, off, rfl, hcc⟩ := hc (by omega)
        exact dom_loop a0 a2 b off n2 c0 c1 c2 p r Z R w (by omega) hn (by omega) (by omega) (by omega) (by omega) (by omega) hcc
          ⟨fun h => (hR.1 h).2.2.2.2.2.2.2, fun h => hR.2 ⟨rfl, rfl, by omega, by omega, by omega, by omega, by omega, h⟩⟩

/-- Increasing. -/
def Incr (Z : Nat → Int) (n : Nat) : Prop := ∀ i, 1 ≤ i → i < n → Z (i - 1) < Z i

set_option maxHeartbeats 800000 in
theorem incr_any (b off n c : Nat) (Z : Nat → Int) (R : Bool) (w : World) (hn2 : 2 ≤ n) (hn : n ≤ 4096) (hc : ∀ i, i < n → w.cell? ⟨b, off + i, none⟩ = some (.int .i32 (Z i))) (hR : R = true ↔ Incr Z n) :
    Calls Trym.prog 24 #[.slice (some ⟨b, off, none⟩) n c] w fun e w' => e = .returned (.bool R) ∧ ∃ nq, w' = w.drewN nq := by
  have HR : Hid (R = true ↔ Incr Z n) := hR
  have HC : Hid (∀ i, i < n → w.cell? ⟨b, off + i, none⟩ = some (.int .i32 (Z i))) := hc
  clear hR hc
  go_enter Trym.func24, Trym.ntmps24
  go_wp2
  go_loopw [3] (fun i wr => ∃ k nq : Nat, 1 ≤ k ∧ k ≤ n ∧ i = .int .i64 k ∧ wr = w.drewN nq ∧ ∀ j, 1 ≤ j → j < k → Z (j - 1) < Z j) (fun i _ => n - (intOf i).toNat)
  case atStart => exact ⟨1, 0, by omega, by omega, rfl, rfl, fun j h1 h2 => by omega⟩
  case round =>
    obtain ⟨k, nq, hk1, hk, rfl, rfl, hok⟩ := hrel
    have HO : Hid (∀ j, 1 ≤ j → j < k → Z (j - 1) < Z j) := hok
    clear hok
    by_cases hlt : k < n
    · have c1 := HC.out (k - 1) (by omega)
      have c2 := HC.out k hlt
      have e3 : IntKind.i64.wrap ((k : Int) - 1) = ((k - 1 : Nat) : Int) := by rw [wrap_id (by omega) (by omega)]; omega
      have l1 : ((k - 1 : Nat) : Int) < n := by omega
      have l2 : (k : Int) < n := by omega
      by_cases hz : Z (k - 1) < Z k
      · go_wp2
        go_quiet (fail)
        go_wp2
        go_roundw
        case rel => exact ⟨k + 1, _, by omega, by omega, by go_num, rfl, fun j h1 h2 => by
          by_cases e : j = k
          · subst e; exact hz
          · exact HO.out j h1 (by omega)⟩
        case measure => simp [intOf]; omega
      · have hRf : Hid (R = false) := by
          cases hr' : R with
          | false => rfl
          | true => exact absurd (HR.out.1 hr' k hk1 hlt) hz
        clear HR
        go_wp2
        go_quiet (fail)
        go_wp2
        go_ret
        exact ⟨retB hRf.out.symm, _, World.drewN_drewN _ _ _⟩
    · have hRt : Hid (R = true) := HR.out.2 (fun i h1 hi => HO.out i h1 (by omega))
      clear HR HO
      go_wp2
      go_ret
      exact ⟨retB hRt.out.symm, _, rfl⟩
end Go.Proofs.Qxb6602780aMods
