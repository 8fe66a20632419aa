/- FnHexValueReadsBackWhatWasWritten: the walk. -/
import Derived.Test.Qxb6601229aModsHexV
namespace Go.Proofs.Qxb6601229aMods
open Go.ChangeShapes Go.WideShapes Go.ChangeAt Go.RowKit
set_option linter.unusedVariables false

theorem hexChar_any (d : Int) (u : Bool) (w : World) (h0 : 0 ≤ d) (h1 : d < 16) :
    Calls Trym.prog 13 #[.int .u8 d, .bool u] w fun e w' => e = .returned (.int .u8 (hexC d u)) ∧ w' = w := by
  by_cases h : d < 10
  · have e : hexC d u = 48 + d := by unfold hexC; rw [if_pos h]
    rw [e]; clear e
    go_enter Trym.func13, Trym.ntmps13
    go_wp2
    go_ret
    exact ⟨rfl, rfl⟩
  · cases u
    · have e : hexC d false = 97 + d - 10 := by unfold hexC; rw [if_neg h]; simp; omega
      rw [e]; clear e
      go_enter Trym.func13, Trym.ntmps13
      go_wp2
      go_ret
      exact ⟨rfl, rfl⟩
    · have e : hexC d true = 65 + d - 10 := by unfold hexC; rw [if_neg h]; simp; omega
      rw [e]; clear e
      go_enter Trym.func13, Trym.ntmps13
      go_wp2
      go_ret
      exact ⟨rfl, rfl⟩

theorem zzb12_yes (v count : Int) (u : Bool) (a : Option Addr) (n c : Nat) (w : World) (h : n ≤ 1048576) :
    Calls Trym.prog 12 #[.int .u32 v, .int .i64 count, .bool u, .slice a n c] w fun e w' => e = .returned (.bool true) ∧ w' = w := by
  go_enter Trym.func12, Trym.ntmps12
  go_wp2
  go_ret
  exact ⟨rfl, rfl⟩

theorem zzb12_no (v count : Int) (u : Bool) (a : Option Addr) (n c : Nat) (w : World) (h : 1048576 < n) :
    Calls Trym.prog 12 #[.int .u32 v, .int .i64 count, .bool u, .slice a n c] w fun e w' => e = .returned (.bool false) ∧ w' = w := by
  go_enter Trym.func12, Trym.ntmps12
  go_wp2
  go_ret
  exact ⟨rfl, rfl⟩

theorem own_of_row {w : World} {b base : Nat} {t : TypeId} {N k : Nat} {f : Nat → Value} (h : w.rowIs b t N f) (hk : k ≤ N) (hN : N ≤ maxLen) (hb : base ≤ b) :
    w.ownsRow base t 1 (.slice (some ⟨b, 0, none⟩) k N) k ((List.range k).map f) := by
  obtain ⟨c, hc, hs, hf⟩ := h
  refine ⟨by simp, .inr ⟨b, N, c, rfl, hb, hc, hk, hN, by omega, ?_⟩⟩
  apply List.ext_getElem?
  intro i
  rw [List.getElem?_take]
  by_cases hi : i < k
  · rw [if_pos (by omega)]
    simp [hi, ← hf i (by omega)]
  · rw [if_neg (by omega)]
    simp [hi]

theorem hexC_bd (d : Int) (u : Bool) (h0 : 0 ≤ d) (h1 : d < 16) : 0 ≤ hexC d u ∧ hexC d u ≤ 255 := by
  unfold hexC; split
  · omega
  · split <;> omega

theorem and15 (x : Int) (h0 : 0 ≤ x) (h1 : x < 4294967296) : bits .and .u32 x 15 = x % 16 := by
  have hw : ∀ y : Int, IntKind.u32.wrap y = y % 4294967296 := by intro y; simp [IntKind.wrap, IntKind.bits, IntKind.signed]
  have hb : (IntKind.u32).bits = 32 := rfl
  simp only [bits, hw, hb, BitVec.toNat_and, BitVec.toNat_ofInt]
  have e1 : (x % ((2 ^ 32 : Nat) : Int)).toNat = x.toNat := by omega
  have e2 : ((15 : Int) % ((2 ^ 32 : Nat) : Int)).toNat = 2 ^ 4 - 1 := by decide
  rw [e1, e2, Nat.and_two_pow_sub_one_eq_mod]
  omega

theorem digit_of (v : Int) (m : Nat) (h0 : 0 ≤ v) (h1 : v < 4294967296) : bits .and .u32 (v / 2 ^ (4 * m)) 15 % 256 = v / 16 ^ m % 16 := by
  have e : (2 : Int) ^ (4 * m) = 16 ^ m := by rw [Int.pow_mul]; rfl
  rw [e]
  have hp : (0 : Int) < 16 ^ m := Int.pow_pos (by decide)
  have a : 0 ≤ v / 16 ^ m := Int.ediv_nonneg h0 (by omega)
  have b : v / 16 ^ m ≤ v := Int.ediv_le_self _ h0
  rw [and15 _ a (by omega)]
  omega

theorem mask_law (F : Nat → Int) (v : Int) (c : Nat) (h0 : 0 ≤ v) (h1 : v < 4294967296) (hc : c ≤ 8) (h : numF F c = v / 16 ^ (c - c) % 16 ^ c) :
    (valF F c == wrap32 (bits BinOp.and IntKind.u32 v ((2 ^ (4 * c) - 1) % 4294967296))) = true := by
  have e : (2 : Int) ^ (4 * c) = 16 ^ c := by rw [Int.pow_mul]; rfl
  have hw : ∀ y : Int, IntKind.u32.wrap y = y % 4294967296 := by intro y; simp [IntKind.wrap, IntKind.bits, IntKind.signed]
  have hb : (IntKind.u32).bits = 32 := rfl
  have hp : (0 : Int) < 2 ^ (4 * c) := Int.pow_pos (by decide)
  have hq : (2 : Int) ^ (4 * c) ≤ 4294967296 := by
    have : (2 : Nat) ^ (4 * c) ≤ 2 ^ 32 := Nat.pow_le_pow_right (by decide) (by omega)
    have h2 : ((2 ^ (4 * c) : Nat) : Int) ≤ ((2 ^ 32 : Nat) : Int) := by exact_mod_cast this
    simpa using h2
  have E : bits BinOp.and IntKind.u32 v ((2 ^ (4 * c) - 1) % 4294967296) = v % 16 ^ c := by
    simp only [bits, hw, hb, BitVec.toNat_and, BitVec.toNat_ofInt]
    have e1 : (v % ((2 ^ 32 : Nat) : Int)).toNat = v.toNat := by omega
    have e2 : ((((2 : Int) ^ (4 * c) - 1) % 4294967296) % ((2 ^ 32 : Nat) : Int)).toNat = 2 ^ (4 * c) - 1 := by
      have hx : ((2 ^ (4 * c) : Nat) : Int) = (2 : Int) ^ (4 * c) := by simp
      omega
    rw [e1, e2, Nat.and_two_pow_sub_one_eq_mod]
    have hx : ((2 ^ (4 * c) : Nat) : Int) = (2 : Int) ^ (4 * c) := by simp
    have : ((v.toNat % 2 ^ (4 * c) : Nat) : Int) = v % 16 ^ c := by
      rw [Int.natCast_emod, hx, e]
      rw [show (v.toNat : Int) = v by omega]
    rw [this]
    have a1 := Int.emod_nonneg v (show (16 : Int) ^ c ≠ 0 by omega)
    have a2 := Int.emod_lt_of_pos v (show (0 : Int) < 16 ^ c by omega)
    omega
  rw [E, valF_num, h]
  simp

theorem ret_bool {a b : Bool} (h : a = b) : Ending.returned (.bool a) = .returned (.bool b) := by rw [h]

set_option maxHeartbeats 400000 in
theorem walk4_main (v : Int) (c : Nat) (u : Bool) (a : Option Addr) (n cap : Nat) (zs : List Int) (w : World) (h0 : 0 ≤ v) (h1 : v < 4294967296) (hc1 : 1 ≤ c) (hc8 : c ≤ 8) (hn : n ≤ 65536)
    (h : (a = none ∧ n = 0 ∧ cap = 0 ∧ zs = []) ∨ ∃ x, a = some x ∧ n ≤ cap ∧ cap ≤ maxLen ∧ zs.length = cap ∧ (∀ i, i < zs.length → w.cell? (x.add i) = some (.int .u8 (zs.getD i 0))) ∧ ∀ n ∈ zs, (Lit.int .u8 n).wf = true) :
    Calls Trym.prog 4 #[.int .u32 v, .int .i64 c, .bool u, .slice a n cap] w fun e w' => e = .returned (.bool true) ∧ Below w.heap.size w w' := by
  have hcl := clone_any a n cap zs w (by omega) h
  clear h
  have hcl' : Hid _ := hcl
  clear hcl
  go_enter Trym.func4, Trym.ntmps4
  go_wp2_with fail
  refine (zzb12_yes _ _ _ _ _ _ _ (by omega)).mono ?_
  rintro e w ⟨rfl, rfl⟩
  go_wp2_with fail
  refine Calls.mono hcl'.out ?_
  rintro e w1 ⟨a', rfl, hB, hrow, hb⟩
  clear hcl'
  have hmk : ∀ w : World, (Instr.makeSlice 22 (.int .i64 (c : Int)) (.int .i64 ((c : Int) + (n : Int)))).run Trym.prog w = .ok (.slice (some ⟨w.heap.size, 0, none⟩) c (c + n)) (w.alloc (.cells (madeCells #[.int .u8 0] (c + n)) 5)) := by
    intro w
    obtain ⟨i, hi, hz0, hz1, hz2⟩ := info_parts Trym.info5
    have := run_make (P := Trym.prog) w 22 5 i (.int .u8 0) Trym.underlying22 hi hz0 .i64 .i64 c ((c : Int) + n) (by omega) (by omega) (by rw [hz2]; omega) (by omega)
    rw [this, hz1]
    have e1 : ((c : Int) + n).toNat = c + n := by omega
    rw [e1]
    simp [Value.cells]
  go_wp2_with fail
  clear hmk
  go_loopw [10] (fun i wr => ∃ k : Nat, k ≤ c ∧ i = .int .i64 ((k : Int) - 1) ∧ Below w1.heap.size w1 wr ∧ wr.rowIs w1.heap.size 5 (c + n) (fun j => if k ≤ j ∧ j < c then .int .u8 (hexC (v / 16 ^ (c - 1 - j) % 16) u) else .int .u8 0)) (fun i _ => (intOf i + 1).toNat)
  case atStart =>
    refine ⟨c, Nat.le_refl _, rfl, (Below.refl _ _).alloc (Nat.le_refl _) _, ?_⟩
    exact (World.rowIs_made w1 (.int .u8 0) (c + n) 5).congr (fun i hi => by rw [if_neg (by omega)])
  case round =>
    obtain ⟨k, hk, rfl, hbr, hrw⟩ := hrel
    by_cases hlt : 0 < k
    · have hcell := hrw.cell (i := k - 1) (by omega)
      have hfr := hrw.frozen (k - 1)
      clear hB hrow
      go_wp2_with fail
      have hd := digit_of v (c - 1 - (k - 1)) h0 h1
      rw [hd]
      have hd2 : 0 ≤ v / 16 ^ (c - 1 - (k - 1)) % 16 ∧ v / 16 ^ (c - 1 - (k - 1)) % 16 < 16 := by omega
      refine (hexChar_any _ _ _ hd2.1 hd2.2).mono ?_
      rintro e wr ⟨rfl, rfl⟩
      go_wp2
      go_roundw
      case rel =>
        refine ⟨k - 1, by omega, by go_num, hbr.setCell (by simp) _, (hrw.set (k - 1) _).congr fun j hj => ?_⟩
        by_cases e : j = k - 1
        · subst e
          rw [if_pos rfl, if_pos (by omega)]
        · rw [if_neg e]
          by_cases e2 : k ≤ j ∧ j < c
          · rw [if_pos e2, if_pos (by omega)]
          · rw [if_neg e2, if_neg (by omega)]
      case measure => simp [intOf]; omega
    · obtain rfl : k = 0 := by omega
      obtain ⟨i0, hi, hz0, hz1, hz2⟩ := info_parts Trym.info5
      have hown := own_of_row (base := w1.heap.size) (k := c) hrw (by omega) (by unfold maxLen; omega) (Nat.le_refl _)
      have hnone : a' = none → n = 0 ∧ n = 0 := by
        intro e
        by_cases e0 : n = 0
        · exact ⟨e0, e0⟩
        · have := (hrow e0).1; rw [e] at this; simp at this
      have hcc : ∀ ad, a' = some ad → ∀ j x, ((List.range n).map (fun i => Value.int .u8 (zs.getD i 0)))[j]? = some x → wr.cell? (ad.add j) = some x := by
        intro ad had j x hx
        have hj : j < n := by have := (List.getElem?_eq_some_iff.1 hx).1; simpa using this
        have hr := hrow (by omega)
        rw [had] at hr
        obtain ⟨e1, hr⟩ := hr
        obtain rfl := Option.some.inj e1
        have hcj := hr.cell hj
        rw [Addr.add_lit, Nat.zero_add, hbr.cell (World.block_lt_of_cell? _ _ hcj), hcj]
        simpa [hj] using hx
      have hone : ∀ x ∈ (List.range n).map (fun i => Value.int .u8 (zs.getD i 0)), x.oneCell' = true := by
        intro x hx
        obtain ⟨_, _, rfl⟩ := List.mem_map.1 hx
        rfl
      have hB2 := hB.2
      clear hB hrow
      have HC : Hid _ := hcc
      have HN : Hid _ := hnone
      have HO : Hid _ := hone
      clear hcc hnone hone
      go_wp2_with (at_builtin; refine wpList_append_fits_any _ rfl (.tmp 60) (.tmp 61) 22 rfl w1.heap.size 5 i0 1 Trym.underlying22 hi hz1 w1.heap.size c (c + n) _ rfl hown a' n n _ rfl (by simp) HN.out HC.out HO.out (by omega) ?_; intro w2 hown2 hgr2)
      obtain ⟨F, hF⟩ : ∃ F : Nat → Int, F = fun i => if i < c then hexC (v / 16 ^ (c - 1 - i) % 16) u else zs.getD (i - c) 0 := ⟨_, rfl⟩
      have hBy : Bytes w2 (some ⟨w1.heap.size, 0, none⟩) (c + n) F := by
        refine ⟨.inr ⟨_, rfl, fun i hi => ?_⟩, fun i => ?_⟩
        · rw [hown2.cellAt i (by omega), hF]
          by_cases e : i < c
          · rw [List.getElem?_append_left (by simpa using e)]
            simp [e]
          · rw [List.getElem?_append_right (by simpa using e)]
            have e3 : i - c < n := by omega
            simp [e, e3]
        · rw [hF]
          by_cases e : i < c
          · have := hexC_bd (v / 16 ^ (c - 1 - i) % 16) u (by omega) (by omega)
            simpa [e] using this
          · simpa [e] using hB2 (i - c)
      obtain ⟨k, hL⟩ := lead_exists F (c + n)
      have hdig : ∀ i, i < c → hexD (F i) = v / 16 ^ (c - 1 - i) % 16 := by
        intro i hi
        rw [hF]
        simp only [hi, if_true]
        exact hexD_hexC _ _ (by omega) (by omega)
      have hck : c ≤ k := by
        by_cases e : c ≤ k
        · exact e
        · have h3 := hL.2.2 (by omega)
          rw [hdig k (by omega)] at h3
          omega
      have hval := numF_written F v c hdig c (Nat.le_refl _)
      have hO := hexOut_all (f := F) (count := (c : Int)) hck rfl
      have hbw : Below w.heap.size w w2 := hb.trans ((hbr.mono hb.size).grown hgr2 (by have := hbr.size; have := hb.size; omega) (by intro k hk; have := hb.size; simp at hk; omega))
      have HV : Hid _ := hval
      have HO' : Hid _ := hO
      clear hval hO hdig hown2 hgr2 hB2 HC HN HO hown hrw hbr hF
      refine (zzhex_any _ _ _ k F _ _ hBy hL (by omega) (by omega)).mono ?_
      rintro e w2 ⟨rfl, rfl⟩
      rw [HO'.out.1, HO'.out.2]
      clear hBy hL
      by_cases hc : c < 8
      · have E : (valF F c == wrap32 (bits BinOp.and IntKind.u32 v ((2 ^ (4 * c) - 1) % 4294967296))) = true := mask_law F v c h0 h1 hc8 HV.out
        have E' : Hid _ := E
        clear E
        go_wp2
        go_ret
        exact ⟨ret_bool E'.out, hbw⟩
      · obtain rfl : c = 8 := by omega
        have E : (valF F 8 == wrap32 (bits BinOp.and IntKind.u32 v 4294967295)) = true := by
          have := mask_law F v 8 h0 h1 (by omega) HV.out
          exact this
        have E' : Hid _ := E
        clear E
        go_wp2
        go_ret
        exact ⟨ret_bool E'.out, hbw⟩
end Go.Proofs.Qxb6601229aMods
