/- FnFillsDoubling: the walk. -/
import Derived.Test.Qxb6602809aModsFills
import Derived.Test.Qxb6602809aModsSize
import Derived.Test.Qxb6602809aModsCloneS
namespace Go.Proofs.Qxb6602809aMods
open Go.ChangeShapes Go.WideShapes Go.ChangeAt Go.RowKit
set_option linter.unusedVariables false

/-! ### Twice the rows, twice the common names -/
def two {α : Type} (n : Nat) (f : Nat → α) (i : Nat) : α := if i < n then f i else f (i - n)

theorem cnt_low (m : Nat → Nat) (T : Nat → Nat → ByteArray) (n : Nat) : ∀ j, j ≤ n → cntAll (two n m) (two n T) j = cntAll m T j := by
  intro j
  induction j with
  | zero => intro _; rfl
  | succ j ih => intro h; simp only [cntAll]; rw [ih (by omega)]; simp [two, show j < n by omega]
theorem cnt_high (m : Nat → Nat) (T : Nat → Nat → ByteArray) (n : Nat) : ∀ j, j ≤ n → cntAll (two n m) (two n T) (n + j) = cntAll m T n + cntAll m T j := by
  intro j
  induction j with
  | zero => intro _; simp [cntAll, cnt_low m T n n (Nat.le_refl _)]
  | succ j ih =>
    intro h
    rw [← Nat.add_assoc]
    simp only [cntAll]
    rw [ih (by omega)]
    simp [two, show ¬ n + j < n by omega, Nat.add_assoc]
theorem cnt_two (m : Nat → Nat) (T : Nat → Nat → ByteArray) (n : Nat) : cntAll (two n m) (two n T) (2 * n) = 2 * cntAll m T n := by
  have := cnt_high m T n n (Nat.le_refl _)
  rw [show 2 * n = n + n by omega, this]; omega

/-- The rows of a subject laid twice, k of them so far. -/
structure Twice (G n : Nat) (m : Nat → Nat) (T : Nat → Nat → ByteArray) (w wr : World) (k : Nat) : Prop where
  below : Below w.heap.size w wr
  rows : ∃ V : Nat → Value, wr.rowIs G 48 (2 * n) V ∧ ∀ i, i < k → ∃ ra rc, V i = .slice ra (m i) rc ∧ V (n + i) = .slice ra (m i) rc ∧ RowAt w ra (m i) (T i)

theorem Twice.start (w : World) (n : Nat) (m : Nat → Nat) (T : Nat → Nat → ByteArray) : Twice w.heap.size n m T w (w.alloc (.cells (madeCells #[.slice none 0 0] (2 * n)) 48)) 0 :=
  ⟨(Below.refl _ _).alloc (Nat.le_refl _) _, _, World.rowIs_made w (.slice none 0 0) (2 * n) 48, fun i h => by omega⟩

theorem Twice.put {G n k : Nat} {m : Nat → Nat} {T : Nat → Nat → ByteArray} {w wr : World} {ra : Option Addr} {rc : Nat} (h : Twice G n m T w wr k) (hk : k < n) (hG : w.heap.size ≤ G) (hr : RowAt w ra (m k) (T k)) :
    Twice G n m T w ((wr.setCell ⟨G, k, none⟩ (.slice ra (m k) rc)).setCell ⟨G, n + k, none⟩ (.slice ra (m k) rc)) (k + 1) := by
  obtain ⟨hb, V, hV, h1⟩ := h
  refine ⟨(hb.setCell hG _).setCell hG _, _, (hV.set k _).set (n + k) _, fun i hi => ?_⟩
  by_cases e : i = k
  · subst e
    refine ⟨ra, rc, ?_, ?_, hr⟩
    · rw [if_neg (by omega), if_pos rfl]
    · rw [if_pos rfl]
  · obtain ⟨ra', rc', e1, e2, e3⟩ := h1 i (by omega)
    refine ⟨ra', rc', ?_, ?_, e3⟩
    · rw [if_neg (by omega), if_neg e]; exact e1
    · rw [if_neg (by omega), if_neg (by omega)]; exact e2

theorem Twice.done {G n : Nat} {m : Nat → Nat} {T : Nat → Nat → ByteArray} {w wr : World} (h : Twice G n m T w wr n) : Subj wr (some ⟨G, 0, none⟩) (2 * n) (two n m) (two n T) := fun h0 => by
  obtain ⟨hb, V, hV, h1⟩ := h
  refine ⟨G, 0, rfl, fun i hi => ?_⟩
  by_cases e : i < n
  · obtain ⟨ra, rc, e1, e2, e3⟩ := h1 i e
    refine ⟨ra, rc, ?_, ?_⟩
    · rw [Nat.zero_add, hV.cell hi, e1]; simp [two, e]
    · simpa [two, e] using e3.below hb
  · obtain ⟨ra, rc, e1, e2, e3⟩ := h1 (i - n) (by omega)
    refine ⟨ra, rc, ?_, ?_⟩
    · have e4 : V i = V (n + (i - n)) := by rw [show n + (i - n) = i by omega]
      rw [Nat.zero_add, hV.cell hi, e4, e2]; simp [two, e]
    · simpa [two, e] using e3.below hb

/-- A row of strings that is being filled. -/
structure SRow (G N : Nat) (w wr : World) : Prop where
  below : Below w.heap.size w wr
  row : ∃ f : Nat → Value, wr.rowIs G 9 N f ∧ ∀ i, i < N → ∃ s, f i = .string s
theorem SRow.start (w : World) (N : Nat) : SRow w.heap.size N w (w.alloc (.cells (madeCells #[.string ByteArray.empty] N) 9)) :=
  ⟨(Below.refl _ _).alloc (Nat.le_refl _) _, _, World.rowIs_made w (.string ByteArray.empty) N 9, fun i _ => ⟨_, rfl⟩⟩
theorem SRow.put {G N k : Nat} {w wr : World} (h : SRow G N w wr) (hG : w.heap.size ≤ G) (s : ByteArray) : SRow G N w (wr.setCell ⟨G, k, none⟩ (.string s)) := by
  obtain ⟨hb, f, hf, h1⟩ := h
  refine ⟨hb.setCell hG _, _, hf.set k _, fun i hi => ?_⟩
  by_cases e : i = k
  · exact ⟨s, by simp [e]⟩
  · obtain ⟨s', e'⟩ := h1 i hi
    exact ⟨s', by simp [e, e']⟩
theorem SRow.cellAt {G N k : Nat} {w wr : World} (h : SRow G N w wr) (hk : k < N) : (∃ s, wr.cell? ⟨G, k, none⟩ = some (.string s)) ∧ wr.frozen? ⟨G, k, none⟩ = false := by
  obtain ⟨hb, f, hf, h1⟩ := h
  obtain ⟨s, e⟩ := h1 k hk
  exact ⟨⟨s, by rw [hf.cell hk, e]⟩, hf.frozen k⟩

set_option maxHeartbeats 4000000 in
set_option maxRecDepth 20000 in
theorem walk7_main (typ : Int) (pa : Option Addr) (np pc : Nat) (rest : ByteArray) (a : Option Addr) (n c : Nat) (m : Nat → Nat) (T : Nat → Nat → ByteArray) (w : World) (hP : Strs w pa np) (h : Subj w a n m T) (hnil : a = none → n = 0 ∧ c = 0) (hnp : np ≤ maxLen) (hn : n ≤ maxLen) (hr : rest.size ≤ maxLen) :
    Calls Trym.prog 7 #[.int .i64 typ, .slice pa np pc, .string rest, .slice a n c] w fun e w' => e = .returned (.bool true) ∧ Below w.heap.size w w' := by
  have HP : Hid (Strs w pa np) := hP
  have H : Hid (Subj w a n m T) := h
  have HN : Hid (a = none → n = 0 ∧ c = 0) := hnil
  have B1 : Hid (np ≤ maxLen ∧ n ≤ maxLen ∧ rest.size ≤ maxLen) := ⟨hnp, hn, hr⟩
  unfold maxLen at hnp hn hr
  clear hP h hnil
  go_enter Trym.func7, Trym.ntmps7
  go_wp2_with fail
  refine (zzb31_any typ pa np pc rest a n c m T w HP.out H.out B1.out.1 B1.out.2.1 B1.out.2.2).mono ?_
  rintro e w' ⟨hz, hw'⟩
  obtain rfl := hw'.symm
  obtain ⟨R, rfl, hR⟩ := hz.out
  clear hz hw'
  cases R with
  | false =>
    clear hR
    go_wp2
    go_ret
    exact ⟨rfl, Below.refl _ _⟩
  | true =>
    obtain ⟨b1, b2, b3⟩ := hR rfl
    have HM : Hid (∀ i, i < n → m i ≤ 1048576) := b3
    clear hR b3
    by_cases hrs : rest.size ≤ 1048576
    · go_wp2_with fail
      refine (psize_any pa np pc w HP.out b1).mono ?_
      rintro e w' ⟨⟨z1, rfl⟩, hw'⟩
      obtain rfl := hw'.symm
      go_wp2_with fail
      refine (asize_any a n c m T w H.out b2 HM.out).mono ?_
      rintro e wa ⟨⟨z2, rfl⟩, hba⟩
      have HA : Hid (Below w.heap.size w wa) := hba
      clear hba
      by_cases hsum : 1048576 < wrap64 (wrap64 ((rest.size : Int) + z1) + z2)
      · go_wp2
        go_ret
        exact ⟨rfl, HA.out⟩
      · go_wp2_with fail
        refine (cloneS_any pa np pc wa (HP.out.below HA.out) b1).mono ?_
        rintro e wb ⟨⟨pa', pc', rfl, hSb⟩, hbb⟩
        have SB : Hid (Strs wb pa' np) := hSb
        have HBb : Hid (Below w.heap.size w wb) := HA.out.trans (hbb.mono HA.out.size)
        have Hab : Hid (Below wa.heap.size wa wb) := hbb
        clear hSb hbb
        go_wp2_with fail
        refine (cloneA_any a n c m T wb (H.out.below HBb.out) HN.out b2 HM.out).mono ?_
        rintro e wc ⟨⟨a', c', rfl, hSc, hNc⟩, hbc⟩
        have SC : Hid (Subj wc a' n m T) := hSc
        have NC : Hid (a' = none → n = 0 ∧ c' = 0) := hNc
        have SB2 : Hid (Strs wc pa' np) := SB.out.below hbc
        have HC : Hid (Below w.heap.size w wc) := HBb.out.trans (hbc.mono HBb.out.size)
        clear hSc hNc hbc SB HBb Hab HA
        go_wp2_with fail
        refine (fillsOf_any typ pa' np pc' rest a' n c' m T wc SC.out NC.out (by omega) HM.out).mono ?_
        rintro e wd ⟨rfl, hbd⟩
        have SD : Hid (Subj wd a' n m T) := SC.out.below hbd
        have PD : Hid (Strs wd pa' np) := SB2.out.below hbd
        have HD : Hid (Below w.heap.size w wd) := HC.out.trans (hbd.mono HC.out.size)
        clear hbd SC SB2 HC
        have hmk1 := run_make_row' (P := Trym.prog) 33 9 (.string ByteArray.empty) 16 Trym.underlying33 Trym.info9 rfl .i64 .i64 (2 * np) (by omega) (by omega)
        rw [show ((2 * np : Nat) : Int) = 2 * (np : Int) by omega] at hmk1
        go_wp2_with fail
        clear hmk1
        go_loopg [11] np (fun g i wr => ∃ (k : Nat), g = np - k ∧ k ≤ np ∧ i = .int .i64 k ∧ SRow wd.heap.size (2 * np) wd wr)
        case atStart => exact ⟨0, rfl, Nat.zero_le _, rfl, SRow.start wd (2 * np)⟩
        case round =>
          obtain ⟨k, rfl, hk, rfl, hS⟩ := hrel
          have HS : Hid (SRow wd.heap.size (2 * np) wd wr) := hS
          by_cases hlt : k < np
          · obtain ⟨b, off, ea, hc⟩ := (PD.out.below hS.below) (by omega)
            subst ea
            obtain ⟨s, hs⟩ := hc k hlt
            obtain ⟨⟨s1, g1⟩, f1⟩ := hS.cellAt (k := k) (by omega)
            obtain ⟨⟨s2, g2⟩, f2⟩ := (hS.put (k := k) (Nat.le_refl _) s).cellAt (k := np + k) (by omega)
            have hlb : b < wd.heap.size := by obtain ⟨b', off', e', h'⟩ := PD.out (by omega); obtain ⟨s', h''⟩ := h' 0 (by omega); simp at e'; rw [e'.1]; exact World.block_lt_of_cell? _ _ h''
            have hs' : (wr.setCell ⟨wd.heap.size, k, none⟩ (.string s)).cell? ⟨b, off + k, none⟩ = some (.string s) := by rw [cell_set_other (by show b ≠ wd.heap.size; omega)]; exact hs
            have f2' : wr.frozen? ⟨wd.heap.size, np + k, none⟩ = false := by simpa using f2
            clear hc hS f2
            go_wp2
            go_roundg (np - (k + 1))
            case measure => omega
            case rel => exact ⟨k + 1, rfl, by omega, by go_num, (HS.out.put (Nat.le_refl _) s).put (Nat.le_refl _) s⟩
          · have P1 : Hid (Strs wr pa' np) := PD.out.below hS.below
            have S1 : Hid (Subj wr a' n m T) := SD.out.below hS.below
            have H1 : Hid (Below w.heap.size w wr) := HD.out.trans (hS.below.mono HD.out.size)
            have hG1 : wd.heap.size < wr.heap.size := by obtain ⟨_, f, hf, _⟩ := hS; exact hf.lt
            clear hS HS PD SD HD
            obtain ⟨we, hwe⟩ : ∃ we : World, we = wr := ⟨_, rfl⟩
            subst hwe
            have hmk2 := run_make_row' (P := Trym.prog) 33 9 (.string ByteArray.empty) 16 Trym.underlying33 Trym.info9 rfl .i64 .i64 (np + 1) (by omega) (by omega)
            rw [show ((np + 1 : Nat) : Int) = (np : Int) + 1 by omega] at hmk2
            go_wp2_with fail
            clear hmk2
            go_loopg [13] np (fun g i wr => ∃ (k : Nat), g = np - k ∧ k ≤ np ∧ i = .int .i64 k ∧ SRow we.heap.size (np + 1) we wr)
            case atStart => exact ⟨0, rfl, Nat.zero_le _, rfl, SRow.start we (np + 1)⟩
            case round =>
              obtain ⟨k2, rfl, hk2, rfl, hS2⟩ := hrel
              have HS2 : Hid (SRow we.heap.size (np + 1) we wr) := hS2
              by_cases hlt2 : k2 < np
              · obtain ⟨b, off, ea, hc⟩ := (P1.out.below hS2.below) (by omega)
                subst ea
                obtain ⟨s, hs⟩ := hc k2 hlt2
                obtain ⟨⟨s1, g1⟩, f1⟩ := hS2.cellAt (k := k2) (by omega)
                clear hc hS2
                go_wp2
                go_roundg (np - (k2 + 1))
                case measure => omega
                case rel => exact ⟨k2 + 1, rfl, by omega, by go_num, HS2.out.put (Nat.le_refl _) s⟩
              · obtain ⟨⟨s1, g1⟩, f1⟩ := hS2.cellAt (k := np) (by omega)
                have hS3 := hS2.put (k := np) (Nat.le_refl _) { data := #[42] }
                have P2 : Hid (Strs (wr.setCell ⟨we.heap.size, np, none⟩ (.string { data := #[42] })) pa' np) := P1.out.below hS3.below
                have S2 : Hid (Subj (wr.setCell ⟨we.heap.size, np, none⟩ (.string { data := #[42] })) a' n m T) := S1.out.below hS3.below
                have H2 : Hid (Below w.heap.size w (wr.setCell ⟨we.heap.size, np, none⟩ (.string { data := #[42] }))) := H1.out.trans (hS3.below.mono H1.out.size)
                clear hS2 HS2 hS3 P1 S1 H1
                have hmk3 := run_make_row' (P := Trym.prog) 41 48 (.slice none 0 0) 24 Trym.underlying41 Trym.info48 rfl .i64 .i64 (2 * n) (by omega) (by omega)
                rw [show ((2 * n : Nat) : Int) = 2 * (n : Int) by omega] at hmk3
                have hszq : (wr.setCell ⟨we.heap.size, np, none⟩ (.string { data := #[42] })).heap.size = wr.heap.size := by simp [World.setCell]
                go_wp2_with fail
                clear hmk3 g1 f1
                obtain ⟨wf, hwf⟩ : ∃ wf : World, wf = wr.setCell ⟨we.heap.size, np, none⟩ (.string { data := #[42] }) := ⟨_, rfl⟩
                rw [← hwf] at P2 S2 H2 hszq ⊢
                rw [← hszq]
                clear hwf hszq
                go_loopg [15] n (fun g i wr => ∃ (k : Nat), g = n - k ∧ k ≤ n ∧ i = .int .i64 k ∧ Twice wf.heap.size n m T wf wr k)
                case atStart => exact ⟨0, rfl, Nat.zero_le _, rfl, Twice.start wf n m T⟩
                case round =>
                  obtain ⟨k3, rfl, hk3, rfl, hT⟩ := hrel
                  have HT : Hid (Twice wf.heap.size n m T wf wr k3) := hT
                  obtain ⟨wg, hwg⟩ : ∃ wg : World, wg = wr := ⟨_, rfl⟩
                  subst hwg
                  by_cases hlt3 : k3 < n
                  · obtain ⟨b, off, ea, hc⟩ := S2.out (by omega)
                    subst ea
                    obtain ⟨ra, rc, hcell, hrow⟩ := hc k3 hlt3
                    have hlb : b < wf.heap.size := World.block_lt_of_cell? _ _ hcell
                    have hcg : wg.cell? ⟨b, off + k3, none⟩ = some (.slice ra (m k3) rc) := (hT.below.cell hlb).trans hcell
                    have hcg' : (wg.setCell ⟨wf.heap.size, k3, none⟩ (.slice ra (m k3) rc)).cell? ⟨b, off + k3, none⟩ = some (.slice ra (m k3) rc) := by rw [cell_set_other (by show b ≠ wf.heap.size; omega)]; exact hcg
                    obtain ⟨V, hV⟩ : ∃ V, wg.rowIs wf.heap.size 48 (2 * n) V := by obtain ⟨_, V, hr, _⟩ := hT; exact ⟨V, hr⟩
                    have g1 := hV.cell (i := k3) (by omega)
                    have f1 := hV.frozen k3
                    have g2 : (wg.setCell ⟨wf.heap.size, k3, none⟩ (.slice ra (m k3) rc)).cell? ⟨wf.heap.size, n + k3, none⟩ = some (V (n + k3)) := by
                      have := (hV.set k3 (.slice ra (m k3) rc)).cell (i := n + k3) (by omega)
                      rw [this, if_neg (by omega)]
                    have f2 := hV.frozen (n + k3)
                    have HR : Hid (RowAt wf ra (m k3) (T k3)) := hrow
                    clear hc hT hV hcell hrow
                    obtain ⟨M, hM⟩ : ∃ M, M = m k3 := ⟨_, rfl⟩
                    have HMM : Hid (M = m k3) := hM
                    rw [← hM] at hcg hcg' g2
                    clear hM
                    go_wp2
                    go_roundg (n - (k3 + 1))
                    case measure => omega
                    case rel => exact ⟨k3 + 1, rfl, by omega, by go_num, by rw [HMM.out]; exact HT.out.put hlt3 (Nat.le_refl _) HR.out⟩
                  · obtain rfl : k3 = n := by omega
                    have SG : Hid (Subj wg a' k3 m T) := S2.out.below hT.below
                    have DG : Hid (Subj wg (some ⟨wf.heap.size, 0, none⟩) (2 * k3) (two k3 m) (two k3 T)) := hT.done
                    have HG : Hid (Below w.heap.size w wg) := H2.out.trans (hT.below.mono H2.out.size)
                    have HM2 : Hid (∀ i, i < 2 * k3 → two k3 m i ≤ 1048576) := fun i hi => by
                      by_cases e : i < k3
                      · simp only [two, e, if_true]; exact HM.out i e
                      · simp only [two, e, if_false]; exact HM.out (i - k3) (by omega)
                    clear hT HT S2 H2 P2
                    go_wp2_with fail
                    refine (fillsOf_any typ _ (2 * np) _ rest a' k3 c' m T wg SG.out NC.out (by omega) HM.out).mono ?_
                    rintro e wh ⟨rfl, hbh⟩
                    have SH : Hid (Subj wh a' k3 m T) := SG.out.below hbh
                    have DH : Hid (Subj wh (some ⟨wf.heap.size, 0, none⟩) (2 * k3) (two k3 m) (two k3 T)) := DG.out.below hbh
                    have HH : Hid (Below w.heap.size w wh) := HG.out.trans (hbh.mono HG.out.size)
                    clear hbh SG DG HG
                    go_wp2_with fail
                    refine (fillsOf_any typ _ (np + 1) _ rest a' k3 c' m T wh SH.out NC.out (by omega) HM.out).mono ?_
                    rintro e wj ⟨rfl, hbj⟩
                    have DJ : Hid (Subj wj (some ⟨wf.heap.size, 0, none⟩) (2 * k3) (two k3 m) (two k3 T)) := DH.out.below hbj
                    have HJ : Hid (Below w.heap.size w wj) := HH.out.trans (hbj.mono HH.out.size)
                    clear hbj SH DH HH
                    go_wp2_with fail
                    refine (fillsOf_any typ pa' np pc' rest _ (2 * k3) _ (two k3 m) (two k3 T) wj DJ.out (fun h => by cases h) (by omega) HM2.out).mono ?_
                    rintro e wz ⟨rfl, hbz⟩
                    have HZ : Hid (Below w.heap.size w wz) := HJ.out.trans (hbz.mono HJ.out.size)
                    rw [cnt_two]
                    obtain ⟨C, hC⟩ : ∃ C, C = cntAll m T k3 := ⟨_, rfl⟩
                    rw [← hC]
                    clear hbz DJ HJ hC HM2 NC HM HP H HN B1
                    by_cases t1 : typ = 1
                    · subst t1
                      have e0 : fillsF 1 np C = (np : Int) := by simp [fillsF]
                      have e1 : fillsF 1 (2 * np) C = 2 * (np : Int) := by simp [fillsF]
                      have e2 : fillsF 1 (np + 1) C = (np : Int) + 1 := by simp [fillsF]
                      have e3 : fillsF 1 np (2 * C) = (np : Int) := by simp [fillsF]
                      go_wp2
                      go_ret
                      exact ⟨rfl, HZ.out⟩
                    · by_cases t2 : typ = 2
                      · subst t2
                        have e0 : fillsF 2 np C = (np : Int) := by simp [fillsF]
                        have e1 : fillsF 2 (2 * np) C = 2 * (np : Int) := by simp [fillsF]
                        have e2 : fillsF 2 (np + 1) C = (np : Int) + 1 := by simp [fillsF]
                        have e3 : fillsF 2 np (2 * C) = (np : Int) := by simp [fillsF]
                        clear t1
                        go_wp2
                        go_ret
                        exact ⟨rfl, HZ.out⟩
                      · by_cases t0 : typ = 0
                        · subst t0
                          have e0 : fillsF 0 np C = 1 := by simp [fillsF]
                          have e1 : fillsF 0 (2 * np) C = 1 := by simp [fillsF]
                          have e2 : fillsF 0 (np + 1) C = 1 := by simp [fillsF]
                          have e3 : fillsF 0 np (2 * C) = 1 := by simp [fillsF]
                          clear t1 t2
                          go_wp2
                          go_ret
                          exact ⟨rfl, HZ.out⟩
                        · have t1' : (typ == 1) = false := by simpa using t1
                          have t2' : (typ == 2) = false := by simpa using t2
                          have t0' : (typ == 0) = false := by simpa using t0
                          have e3 : fillsF typ np (2 * C) = 0 := by simp [fillsF, t0, t1, t2]; omega
                          by_cases hC1 : C = 1
                          · have e0 : fillsF typ np C = 1 := by simp [fillsF, t0, t1, t2, hC1]
                            have e1 : fillsF typ (2 * np) C = 1 := by simp [fillsF, t0, t1, t2, hC1]
                            have e2 : fillsF typ (np + 1) C = 1 := by simp [fillsF, t0, t1, t2, hC1]
                            clear t0 t1 t2 hC1
                            go_wp2
                            go_ret
                            exact ⟨rfl, HZ.out⟩
                          · have e0 : fillsF typ np C = 0 := by simp [fillsF, t0, t1, t2, hC1]
                            have e1 : fillsF typ (2 * np) C = 0 := by simp [fillsF, t0, t1, t2, hC1]
                            have e2 : fillsF typ (np + 1) C = 0 := by simp [fillsF, t0, t1, t2, hC1]
                            clear t0 t1 t2 hC1
                            go_wp2
                            go_ret
                            exact ⟨rfl, HZ.out⟩
    · go_wp2
      go_ret
      exact ⟨rfl, Below.refl _ _⟩
end Go.Proofs.Qxb6602809aMods
