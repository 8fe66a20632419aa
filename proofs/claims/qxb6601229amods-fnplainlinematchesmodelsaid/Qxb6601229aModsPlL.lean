/- plainLine. -/
import Derived.Test.Qxb6601229aModsPlM
import Derived.Deep.LoopGhost
import Derived.WalkLawsBesides
namespace Go.Proofs.Qxb6601229aMods
open Go.ChangeShapes Go.WideShapes Go.ChangeAt Go.RowKit
set_option linter.unusedVariables false

theorem end_unique {f : Nat → Int} {start q e e' : Nat} (h1 : start ≤ e) (h2 : e ≤ q) (h3 : ∀ j, e ≤ j → j < q → blankB (f j) = true) (h4 : start < e → blankB (f (e - 1)) = false)
    (k1 : start ≤ e') (k2 : e' ≤ q) (k3 : ∀ j, e' ≤ j → j < q → blankB (f j) = true) (k4 : start < e' → blankB (f (e' - 1)) = false) : e = e' := by
  rcases Nat.lt_trichotomy e e' with h | h | h
  · have a := k4 (by omega); have b := h3 (e' - 1) (by omega) (by omega); rw [a] at b; cases b
  · exact h
  · have a := h4 (by omega); have b := k3 (e - 1) (by omega) (by omega); rw [a] at b; cases b

theorem at_next (P b n cap i : Nat) (ao : Option Addr) (f : Nat → Int) (w : World) (hP : w.cell? ⟨P, 1, none⟩ = some (.slice ao n cap)) (hb : i + 1 < n → ao = some ⟨b, 0, none⟩ ∧ w.cell? ⟨b, i + 1, none⟩ = some (.int .u8 (f (i + 1)))) (hn : n ≤ 2000000) :
    Calls Trym.prog 25 #[.pointer (some ⟨P, 0, none⟩), .int .i64 ((i : Int) + 1)] w fun e w' => e = .returned (.int .u8 (atF f n (i + 1))) ∧ w' = w :=
  at_any P b n cap (i + 1) ao f w hP hb hn

theorem stop_no {f : Nat → Int} {n p : Nat} {flow : Bool} (h : stopB f n p flow = false) : (f p == 0) = false ∧ brkB (f p) = false ∧ (f p = 58 → endB (atF f n (p + 1)) = false ∧ (flow = true → flowB (atF f n (p + 1)) = false)) ∧ (f p = 35 → 0 < p → blankB (f (p - 1)) = false) ∧ (flow = true → flowB (f p) = false) := by
  unfold stopB at h
  simp only [Bool.or_eq_false_iff] at h
  obtain ⟨⟨⟨⟨a, b⟩, c⟩, d⟩, e⟩ := h
  refine ⟨a, b, fun h58 => ?_, fun h35 hp => ?_, fun hf => ?_⟩
  · rw [h58] at c
    simp at c
    exact ⟨c.1, c.2⟩
  · rw [h35] at d
    simp at d
    exact d hp
  · rw [hf] at e
    simpa using e

theorem stop_yes {f : Nat → Int} {n p : Nat} {flow : Bool} (h : stopB f n p flow = true) : f p = 0 ∨ ((f p == 0) = false ∧ brkB (f p) = true) ∨ (f p = 58 ∧ endB (atF f n (p + 1)) = true) ∨ (f p = 58 ∧ endB (atF f n (p + 1)) = false ∧ flow = true ∧ flowB (atF f n (p + 1)) = true) ∨ (f p = 35 ∧ 0 < p ∧ blankB (f (p - 1)) = true) ∨
    (flow = true ∧ flowB (f p) = true) := by
  unfold stopB at h
  by_cases a : f p = 0
  · exact .inl a
  · cases b : brkB (f p) with
    | true => exact .inr (.inl ⟨by simpa using a, rfl⟩)
    | false =>
      have a' : (f p == 0) = false := by simpa using a
      simp only [a', b, Bool.false_or, Bool.or_false] at h
      by_cases c : f p = 58
      · cases d : endB (atF f n (p + 1)) with
        | true => exact .inr (.inr (.inl ⟨c, rfl⟩))
        | false =>
          rw [c] at h
          simp [d, flowB] at h
          refine .inr (.inr (.inr (.inl ⟨c, rfl, ?_⟩)))
          simpa [flowB] using h
      · have c' : (f p == 58) = false := by simpa using c
        simp only [c', Bool.false_and, Bool.false_or] at h
        by_cases d : f p = 35
        · rw [d] at h
          simp [flowB] at h
          exact .inr (.inr (.inr (.inr (.inl ⟨d, h.1, h.2⟩))))
        · have d' : (f p == 35) = false := by simpa using d
          simp [d'] at h
          exact .inr (.inr (.inr (.inr (.inr h))))

theorem flow_not {c : Int} (h : flowB c = true) (k : Int) (hk : flowB k = false) : (c == k) = false := by
  cases e : c == k with
  | false => rfl
  | true => have : c = k := by simpa using e
            subst this; rw [hk] at h; cases h
theorem flow_not_brk {c : Int} (h : flowB c = true) : brkB c = false := by
  simp [brkB, flow_not h 10 (by decide), flow_not h 13 (by decide)]
theorem flow_not_blank {c : Int} (h : flowB c = true) : blankB c = false := by
  simp [blankB, flow_not h 32 (by decide), flow_not h 9 (by decide)]

theorem rel_next {P p : Nat} {w wr : World} {V : Nat → Value} (hbw : Below P w wr) (hrow : wr.rowIs P 41 11 (fun i => if i = 2 then .int .i64 p else V i)) :
    Below P w (wr.setCell ⟨P, 2, none⟩ (.int .i64 ((p : Int) + 1))) ∧ (wr.setCell ⟨P, 2, none⟩ (.int .i64 ((p : Int) + 1))).rowIs P 41 11 (fun i => if i = 2 then .int .i64 ((p + 1 : Nat) : Int) else V i) := by
  refine ⟨hbw.setCell (by simp) _, (hrow.set 2 _).congr fun j hj => ?_⟩
  by_cases e : j = 2
  · simp [e]
  · simp [e]

theorem line_fin {P p b n start e : Nat} {f : Nat → Int} {w wr : World} {V : Nat → Value} (hbP : b < P) (hbw : Below P w wr) (hrow : wr.rowIs P 41 11 (fun i => if i = 2 then .int .i64 p else V i)) (hc : ∀ i, i < n → wr.cell? ⟨b, i, none⟩ = some (.int .u8 (f i))) (he : e ≤ n) :
    (convert 22 9 (.slice (some ⟨b, start, none⟩) (e - start) (n - start))).run Trym.prog (wr.setCell ⟨P, 2, none⟩ (.int .i64 e)) = .ok (.string (txt f start e)) (wr.setCell ⟨P, 2, none⟩ (.int .i64 e)) ∧
    (wr.setCell ⟨P, 2, none⟩ (.int .i64 e)).cell? ⟨P, 2, none⟩ = some (.int .i64 e) ∧ Below P w (wr.setCell ⟨P, 2, none⟩ (.int .i64 e)) := by
  refine ⟨conv_row b n start e f (n - start) _ (fun i hi => ?_) he, ?_, hbw.setCell (by simp) _⟩
  · rw [((Below.refl P wr).setCell (p := ⟨P, 2, none⟩) (Nat.le_refl _) _).cell hbP]; exact hc i hi
  · have := (hrow.set 2 (.int .i64 e)).cell (i := 2) (by decide)
    simpa using this

set_option maxHeartbeats 4000000 in
set_option maxRecDepth 20000 in
theorem pline_row (P b n start q e : Nat) (f : Nat → Int) (V : Nat → Value) (flow : Bool) (w : World) (hc : ∀ i, i < n → w.cell? ⟨b, i, none⟩ = some (.int .u8 (f i))) (hbP : b < P) (hR : w.rowIs P 41 11 (fun i => if i = 2 then .int .i64 start else V i)) (hV : V 1 = .slice (some ⟨b, 0, none⟩) n n)
    (hn : n ≤ 2000000) (hs : start < n) (h35 : start = 0 → ¬ f 0 = 35) (hE : IsEnd f n start flow q e) :
    Calls Trym.prog 23 #[.pointer (some ⟨P, 0, none⟩), .bool flow] w fun r w' => r = .returned (.string (txt f start e)) ∧ w'.cell? ⟨P, 2, none⟩ = some (.int .i64 e) ∧ Below P w w' := by
  obtain ⟨h1, h2, h3, h4, h5, h6, h7⟩ := hE
  have H4 : Hid _ := h4
  have H5 : Hid _ := h5
  have H6 : Hid _ := h6
  have H7 : Hid _ := h7
  have HC : Hid _ := hc
  have HV : Hid _ := hV
  clear h4 h5 h6 h7 hc hV
  have hpos : w.cell? ⟨P, 2, none⟩ = some (.int .i64 start) := hR.cell (i := 2) (by decide)
  go_enter Trym.func23, Trym.ntmps23
  go_wp2
  go_quiet (fail)
  go_wp2
  go_loopg [6] (n + 1 - start) (fun g en wr => ∃ p ee : Nat, g = n + 1 - p ∧ start ≤ ee ∧ ee ≤ p ∧ p ≤ q ∧ en = .int .i64 ee ∧ Below P w wr ∧ wr.rowIs P 41 11 (fun i => if i = 2 then .int .i64 p else V i) ∧ (∀ j, ee ≤ j → j < p → blankB (f j) = true) ∧ (start < ee → blankB (f (ee - 1)) = false))
  case atStart => exact ⟨start, start, rfl, Nat.le_refl _, Nat.le_refl _, by omega, rfl, below_drewN (Below.refl _ _) _, hR, fun j a b => by omega, fun h => by omega⟩
  case round =>
    obtain ⟨p, ee, rfl, hp1, hp2, hp3, rfl, hbw, hrow, hbl, hnb⟩ := hrel
    have hP1 : wr.cell? ⟨P, 1, none⟩ = some (.slice (some ⟨b, 0, none⟩) n n) := by have := hrow.cell (i := 1) (by decide); simpa [HV.out] using this
    have hP2 : wr.cell? ⟨P, 2, none⟩ = some (.int .i64 p) := hrow.cell (i := 2) (by decide)
    have hfr : wr.frozen? ⟨P, 2, none⟩ = false := hrow.frozen 2
    have hcw : ∀ i, i < n → wr.cell? ⟨b, i, none⟩ = some (.int .u8 (f i)) := fun i hi => (hbw.cell hbP).trans (HC.out i hi)
    have HW : Hid _ := hcw
    have HBL : Hid _ := hbl
    have HNB : Hid _ := hnb
    have h35s : Hid _ := h35
    clear hcw hbl hnb hR hpos h35
    by_cases hpq : p < q
    · have hst := H4.out p (by omega) hpq
      have hat : Hid (atF f n p = f p) := by show atF f n p = f p; simp [atF]; omega
      cases hblank : blankB (f p) with
      | true =>
        have h0 : (f p == 0) = false := by simp [blankB] at hblank; simp; omega
        have hbr : brkB (f p) = false := by simp [blankB] at hblank; simp [brkB]; omega
        clear hst
        go_wp2_with fail
        refine (at_any P b n n p _ f wr hP1 (fun h => ⟨rfl, HW.out p h⟩) hn).mono ?_
        rintro r w' ⟨rfl, hw'⟩
        obtain rfl := hw'.symm
        rw [hat.out]
        clear hat
        go_wp2_with (first | (go_at_call 26; refine (isBreak_any _ _).mono ?_; rintro r w' ⟨rfl, hw'⟩; obtain rfl := hw'.symm) | (go_at_call 27; refine (isBlank_any _ _).mono ?_; rintro r w' ⟨rfl, hw'⟩; obtain rfl := hw'.symm))
        go_roundg (n + 1 - (p + 1))
        case measure => omega
        case rel =>
          refine ⟨p + 1, ee, rfl, by omega, by omega, by omega, rfl, hbw.setCell (by simp) _, (hrow.set 2 _).congr fun j hj => ?_, fun j a b => ?_, HNB.out⟩
          · by_cases e : j = 2
            · simp [e]
            · simp [e]
          · by_cases e : j = p
            · subst e; exact hblank
            · exact HBL.out j a (by omega)
      | false =>
        have hblank' : Hid (blankB (f p) = false) := hblank
        obtain ⟨h0, hbr, h58, h35, hfl⟩ := stop_no hst
        clear hst
        by_cases c58 : f p = 58
        · obtain ⟨hen, hfn⟩ := h58 c58
          have k1 : brkB 58 = false := by decide
          have k2 : blankB 58 = false := by decide
          have k3 : flowB 58 = false := by decide
          rw [c58] at hat
          clear h0 hbr h35 hfl h58 hblank c58
          go_wp2_with fail
          refine (at_any P b n n p _ f wr hP1 (fun h => ⟨rfl, HW.out p h⟩) hn).mono ?_
          rintro r w' ⟨rfl, hw'⟩
          obtain rfl := hw'.symm
          rw [hat.out]
          clear hat
          cases flow with
          | true =>
            have hfn' := hfn rfl
            clear hfn
            go_wp2_with (first | (go_at_call 26; refine (isBreak_any _ _).mono ?_; rintro r w' ⟨rfl, hw'⟩; obtain rfl := hw'.symm) | (go_at_call 27; refine (isBlank_any _ _).mono ?_; rintro r w' ⟨rfl, hw'⟩; obtain rfl := hw'.symm) | (go_at_call 28; refine (isEnd_any _ _).mono ?_; rintro r w' ⟨rfl, hw'⟩; obtain rfl := hw'.symm) | (go_at_call 29; refine (isFlow_any _ _).mono ?_; rintro r w' ⟨rfl, hw'⟩; obtain rfl := hw'.symm) | (go_at_call 25; refine (at_next P b n n p _ f _ hP1 (fun h => ⟨rfl, HW.out (p + 1) h⟩) hn).mono ?_; rintro r w' ⟨rfl, hw'⟩; obtain rfl := hw'.symm))
            go_quiet (fail)
            go_wp2_with (go_at_call 29; refine (isFlow_any _ _).mono ?_; rintro r w' ⟨rfl, hw'⟩; obtain rfl := hw'.symm)
            go_roundg (n + 1 - (p + 1))
            case measure => omega
            case rel =>
              obtain ⟨r1, r2⟩ := rel_next (wr := wr.drewN nq) (below_drewN hbw _) hrow
              exact ⟨p + 1, p + 1, rfl, by omega, by omega, by omega, by go_num, r1, r2, fun j a b => by omega, fun _ => hblank'.out⟩
          | false =>
            clear hfn
            go_wp2_with (first | (go_at_call 26; refine (isBreak_any _ _).mono ?_; rintro r w' ⟨rfl, hw'⟩; obtain rfl := hw'.symm) | (go_at_call 27; refine (isBlank_any _ _).mono ?_; rintro r w' ⟨rfl, hw'⟩; obtain rfl := hw'.symm) | (go_at_call 28; refine (isEnd_any _ _).mono ?_; rintro r w' ⟨rfl, hw'⟩; obtain rfl := hw'.symm) | (go_at_call 29; refine (isFlow_any _ _).mono ?_; rintro r w' ⟨rfl, hw'⟩; obtain rfl := hw'.symm) | (go_at_call 25; refine (at_next P b n n p _ f _ hP1 (fun h => ⟨rfl, HW.out (p + 1) h⟩) hn).mono ?_; rintro r w' ⟨rfl, hw'⟩; obtain rfl := hw'.symm))
            go_quiet (fail)
            go_wp2
            go_roundg (n + 1 - (p + 1))
            case measure => omega
            case rel =>
              obtain ⟨r1, r2⟩ := rel_next (wr := wr.drewN nq) (below_drewN hbw _) hrow
              exact ⟨p + 1, p + 1, rfl, by omega, by omega, by omega, by go_num, r1, r2, fun j a b => by omega, fun _ => hblank'.out⟩
        · by_cases c35 : f p = 35
          · have hp0 : 0 < p := by
              rcases Nat.eq_zero_or_pos p with h | h
              · subst h; exact absurd c35 (h35s.out (by omega))
              · exact h
            have hpb := h35 c35 hp0
            have hcp := HW.out (p - 1) (by omega)
            have k1 : brkB 35 = false := by decide
            have k2 : blankB 35 = false := by decide
            have k3 : flowB 35 = false := by decide
            rw [c35] at hat
            clear h0 hbr h35 hfl h58 hblank c35 c58
            go_wp2_with fail
            refine (at_any P b n n p _ f wr hP1 (fun h => ⟨rfl, HW.out p h⟩) hn).mono ?_
            rintro r w' ⟨rfl, hw'⟩
            obtain rfl := hw'.symm
            rw [hat.out]
            clear hat
            cases flow with
            | true =>
              go_wp2_with (first | (go_at_call 26; refine (isBreak_any _ _).mono ?_; rintro r w' ⟨rfl, hw'⟩; obtain rfl := hw'.symm) | (go_at_call 27; refine (isBlank_any _ _).mono ?_; rintro r w' ⟨rfl, hw'⟩; obtain rfl := hw'.symm) | (go_at_call 28; refine (isEnd_any _ _).mono ?_; rintro r w' ⟨rfl, hw'⟩; obtain rfl := hw'.symm) | (go_at_call 29; refine (isFlow_any _ _).mono ?_; rintro r w' ⟨rfl, hw'⟩; obtain rfl := hw'.symm) | (go_at_call 25; refine (at_next P b n n p _ f _ hP1 (fun h => ⟨rfl, HW.out (p + 1) h⟩) hn).mono ?_; rintro r w' ⟨rfl, hw'⟩; obtain rfl := hw'.symm))
              go_quiet ((go_at_call 27; exact Calls.quiet_of_same (isBlank_any _ _)))
              go_wp2_with (go_at_call 29; refine (isFlow_any _ _).mono ?_; rintro r w' ⟨rfl, hw'⟩; obtain rfl := hw'.symm)
              go_roundg (n + 1 - (p + 1))
              case measure => omega
              case rel =>
                obtain ⟨r1, r2⟩ := rel_next (wr := wr.drewN nq) (below_drewN hbw _) hrow
                exact ⟨p + 1, p + 1, rfl, by omega, by omega, by omega, by go_num, r1, r2, fun j a b => by omega, fun _ => hblank'.out⟩
            | false =>
              go_wp2_with (first | (go_at_call 26; refine (isBreak_any _ _).mono ?_; rintro r w' ⟨rfl, hw'⟩; obtain rfl := hw'.symm) | (go_at_call 27; refine (isBlank_any _ _).mono ?_; rintro r w' ⟨rfl, hw'⟩; obtain rfl := hw'.symm) | (go_at_call 28; refine (isEnd_any _ _).mono ?_; rintro r w' ⟨rfl, hw'⟩; obtain rfl := hw'.symm) | (go_at_call 29; refine (isFlow_any _ _).mono ?_; rintro r w' ⟨rfl, hw'⟩; obtain rfl := hw'.symm) | (go_at_call 25; refine (at_next P b n n p _ f _ hP1 (fun h => ⟨rfl, HW.out (p + 1) h⟩) hn).mono ?_; rintro r w' ⟨rfl, hw'⟩; obtain rfl := hw'.symm))
              go_quiet ((go_at_call 27; exact Calls.quiet_of_same (isBlank_any _ _)))
              go_wp2
              go_roundg (n + 1 - (p + 1))
              case measure => omega
              case rel =>
                obtain ⟨r1, r2⟩ := rel_next (wr := wr.drewN nq) (below_drewN hbw _) hrow
                exact ⟨p + 1, p + 1, rfl, by omega, by omega, by omega, by go_num, r1, r2, fun j a b => by omega, fun _ => hblank'.out⟩
          · have d58 : (f p == 58) = false := by simpa using c58
            have d35 : (f p == 35) = false := by simpa using c35
            clear c58 c35 h58 h35
            go_wp2_with fail
            refine (at_any P b n n p _ f wr hP1 (fun h => ⟨rfl, HW.out p h⟩) hn).mono ?_
            rintro r w' ⟨rfl, hw'⟩
            obtain rfl := hw'.symm
            rw [hat.out]
            clear hat
            cases flow with
            | true =>
              have hfl' := hfl rfl
              clear hfl
              go_wp2_with (first | (go_at_call 26; refine (isBreak_any _ _).mono ?_; rintro r w' ⟨rfl, hw'⟩; obtain rfl := hw'.symm) | (go_at_call 27; refine (isBlank_any _ _).mono ?_; rintro r w' ⟨rfl, hw'⟩; obtain rfl := hw'.symm) | (go_at_call 28; refine (isEnd_any _ _).mono ?_; rintro r w' ⟨rfl, hw'⟩; obtain rfl := hw'.symm) | (go_at_call 29; refine (isFlow_any _ _).mono ?_; rintro r w' ⟨rfl, hw'⟩; obtain rfl := hw'.symm) | (go_at_call 25; refine (at_next P b n n p _ f _ hP1 (fun h => ⟨rfl, HW.out (p + 1) h⟩) hn).mono ?_; rintro r w' ⟨rfl, hw'⟩; obtain rfl := hw'.symm))
              go_quiet (fail)
              go_wp2_with (go_at_call 29; refine (isFlow_any _ _).mono ?_; rintro r w' ⟨rfl, hw'⟩; obtain rfl := hw'.symm)
              go_roundg (n + 1 - (p + 1))
              case measure => omega
              case rel =>
                obtain ⟨r1, r2⟩ := rel_next (wr := wr.drewN nq) (below_drewN hbw _) hrow
                exact ⟨p + 1, p + 1, rfl, by omega, by omega, by omega, by go_num, r1, r2, fun j a b => by omega, fun _ => hblank'.out⟩
            | false =>
              clear hfl
              go_wp2_with (first | (go_at_call 26; refine (isBreak_any _ _).mono ?_; rintro r w' ⟨rfl, hw'⟩; obtain rfl := hw'.symm) | (go_at_call 27; refine (isBlank_any _ _).mono ?_; rintro r w' ⟨rfl, hw'⟩; obtain rfl := hw'.symm) | (go_at_call 28; refine (isEnd_any _ _).mono ?_; rintro r w' ⟨rfl, hw'⟩; obtain rfl := hw'.symm) | (go_at_call 29; refine (isFlow_any _ _).mono ?_; rintro r w' ⟨rfl, hw'⟩; obtain rfl := hw'.symm) | (go_at_call 25; refine (at_next P b n n p _ f _ hP1 (fun h => ⟨rfl, HW.out (p + 1) h⟩) hn).mono ?_; rintro r w' ⟨rfl, hw'⟩; obtain rfl := hw'.symm))
              go_quiet (fail)
              go_wp2
              go_roundg (n + 1 - (p + 1))
              case measure => omega
              case rel =>
                obtain ⟨r1, r2⟩ := rel_next (wr := wr.drewN nq) (below_drewN hbw _) hrow
                exact ⟨p + 1, p + 1, rfl, by omega, by omega, by omega, by go_num, r1, r2, fun j a b => by omega, fun _ => hblank'.out⟩
    · obtain rfl : p = q := by omega
      obtain rfl : ee = e := end_unique hp1 hp2 HBL.out HNB.out h1 h2 H6.out H7.out
      have hne : ¬ n = start := by omega
      clear h35s
      by_cases hpn : p < n
      · have hat : Hid (atF f n p = f p) := by show atF f n p = f p; simp [atF]; omega
        rcases stop_yes (H5.out hpn) with c0 | ⟨d0, hbr⟩ | ⟨c58, hen⟩ | ⟨c58, hen, rfl, hfn⟩ | ⟨c35, hp0, hpb⟩ | ⟨rfl, hfl⟩
        · rw [c0] at hat
          clear c0
          have FI := line_fin (start := start) hbP hbw hrow HW.out (show ee ≤ n by omega)
          have hcv := FI.1
          have FI' : Hid _ := FI
          clear FI
          clear HBL HNB H4 H5 H6 H7
          go_wp2_with fail
          refine (at_any P b n n p _ f wr hP1 (fun h => ⟨rfl, HW.out p h⟩) hn).mono ?_
          rintro r w' ⟨rfl, hw'⟩
          obtain rfl := hw'.symm
          rw [hat.out]
          clear hat
          go_wp2_with (first | (go_at_call 26; refine (isBreak_any _ _).mono ?_; rintro r w' ⟨rfl, hw'⟩; obtain rfl := hw'.symm) | (go_at_call 27; refine (isBlank_any _ _).mono ?_; rintro r w' ⟨rfl, hw'⟩; obtain rfl := hw'.symm) | (go_at_call 28; refine (isEnd_any _ _).mono ?_; rintro r w' ⟨rfl, hw'⟩; obtain rfl := hw'.symm) | (go_at_call 29; refine (isFlow_any _ _).mono ?_; rintro r w' ⟨rfl, hw'⟩; obtain rfl := hw'.symm) | (go_at_call 25; refine (at_next P b n n p _ f _ hP1 (fun h => ⟨rfl, HW.out (p + 1) h⟩) hn).mono ?_; rintro r w' ⟨rfl, hw'⟩; obtain rfl := hw'.symm))
          go_ret
          exact ⟨rfl, FI'.out.2.1, FI'.out.2.2⟩
        · have FI := line_fin (start := start) hbP hbw hrow HW.out (show ee ≤ n by omega)
          have hcv := FI.1
          have FI' : Hid _ := FI
          clear FI
          clear HBL HNB H4 H5 H6 H7
          go_wp2_with fail
          refine (at_any P b n n p _ f wr hP1 (fun h => ⟨rfl, HW.out p h⟩) hn).mono ?_
          rintro r w' ⟨rfl, hw'⟩
          obtain rfl := hw'.symm
          rw [hat.out]
          clear hat
          go_wp2_with (first | (go_at_call 26; refine (isBreak_any _ _).mono ?_; rintro r w' ⟨rfl, hw'⟩; obtain rfl := hw'.symm) | (go_at_call 27; refine (isBlank_any _ _).mono ?_; rintro r w' ⟨rfl, hw'⟩; obtain rfl := hw'.symm) | (go_at_call 28; refine (isEnd_any _ _).mono ?_; rintro r w' ⟨rfl, hw'⟩; obtain rfl := hw'.symm) | (go_at_call 29; refine (isFlow_any _ _).mono ?_; rintro r w' ⟨rfl, hw'⟩; obtain rfl := hw'.symm) | (go_at_call 25; refine (at_next P b n n p _ f _ hP1 (fun h => ⟨rfl, HW.out (p + 1) h⟩) hn).mono ?_; rintro r w' ⟨rfl, hw'⟩; obtain rfl := hw'.symm))
          go_ret
          exact ⟨rfl, FI'.out.2.1, FI'.out.2.2⟩
        · have k1 : brkB 58 = false := by decide
          have k2 : blankB 58 = false := by decide
          rw [c58] at hat
          clear c58
          have FI := line_fin (start := start) hbP hbw hrow HW.out (show ee ≤ n by omega)
          have hcv := FI.1
          have FI' : Hid _ := FI
          clear FI
          clear HBL HNB H4 H5 H6 H7
          go_wp2_with fail
          refine (at_any P b n n p _ f wr hP1 (fun h => ⟨rfl, HW.out p h⟩) hn).mono ?_
          rintro r w' ⟨rfl, hw'⟩
          obtain rfl := hw'.symm
          rw [hat.out]
          clear hat
          go_wp2_with (first | (go_at_call 26; refine (isBreak_any _ _).mono ?_; rintro r w' ⟨rfl, hw'⟩; obtain rfl := hw'.symm) | (go_at_call 27; refine (isBlank_any _ _).mono ?_; rintro r w' ⟨rfl, hw'⟩; obtain rfl := hw'.symm) | (go_at_call 28; refine (isEnd_any _ _).mono ?_; rintro r w' ⟨rfl, hw'⟩; obtain rfl := hw'.symm) | (go_at_call 29; refine (isFlow_any _ _).mono ?_; rintro r w' ⟨rfl, hw'⟩; obtain rfl := hw'.symm) | (go_at_call 25; refine (at_next P b n n p _ f _ hP1 (fun h => ⟨rfl, HW.out (p + 1) h⟩) hn).mono ?_; rintro r w' ⟨rfl, hw'⟩; obtain rfl := hw'.symm))
          go_ret
          exact ⟨rfl, FI'.out.2.1, FI'.out.2.2⟩
        · have k1 : brkB 58 = false := by decide
          have k2 : blankB 58 = false := by decide
          rw [c58] at hat
          clear c58
          have FI := line_fin (start := start) hbP hbw hrow HW.out (show ee ≤ n by omega)
          have hcv := FI.1
          have FI' : Hid _ := FI
          clear FI
          clear HBL HNB H4 H5 H6 H7
          go_wp2_with fail
          refine (at_any P b n n p _ f wr hP1 (fun h => ⟨rfl, HW.out p h⟩) hn).mono ?_
          rintro r w' ⟨rfl, hw'⟩
          obtain rfl := hw'.symm
          rw [hat.out]
          clear hat
          go_wp2_with (first | (go_at_call 26; refine (isBreak_any _ _).mono ?_; rintro r w' ⟨rfl, hw'⟩; obtain rfl := hw'.symm) | (go_at_call 27; refine (isBlank_any _ _).mono ?_; rintro r w' ⟨rfl, hw'⟩; obtain rfl := hw'.symm) | (go_at_call 28; refine (isEnd_any _ _).mono ?_; rintro r w' ⟨rfl, hw'⟩; obtain rfl := hw'.symm) | (go_at_call 29; refine (isFlow_any _ _).mono ?_; rintro r w' ⟨rfl, hw'⟩; obtain rfl := hw'.symm) | (go_at_call 25; refine (at_next P b n n p _ f _ hP1 (fun h => ⟨rfl, HW.out (p + 1) h⟩) hn).mono ?_; rintro r w' ⟨rfl, hw'⟩; obtain rfl := hw'.symm))
          go_ret
          exact ⟨rfl, FI'.out.2.1, FI'.out.2.2⟩
        · have k1 : brkB 35 = false := by decide
          have k2 : blankB 35 = false := by decide
          have hcp := HW.out (p - 1) (by omega)
          rw [c35] at hat
          clear c35
          have FI := fun nq => line_fin (start := start) (wr := wr.drewN nq) hbP (below_drewN hbw nq) hrow HW.out (show ee ≤ n by omega)
          have hcv := fun nq => (FI nq).1
          have FI' : Hid _ := FI
          clear FI
          clear HBL HNB H4 H5 H6 H7
          go_wp2_with fail
          refine (at_any P b n n p _ f wr hP1 (fun h => ⟨rfl, HW.out p h⟩) hn).mono ?_
          rintro r w' ⟨rfl, hw'⟩
          obtain rfl := hw'.symm
          rw [hat.out]
          clear hat
          go_wp2_with (first | (go_at_call 26; refine (isBreak_any _ _).mono ?_; rintro r w' ⟨rfl, hw'⟩; obtain rfl := hw'.symm) | (go_at_call 27; refine (isBlank_any _ _).mono ?_; rintro r w' ⟨rfl, hw'⟩; obtain rfl := hw'.symm) | (go_at_call 28; refine (isEnd_any _ _).mono ?_; rintro r w' ⟨rfl, hw'⟩; obtain rfl := hw'.symm) | (go_at_call 29; refine (isFlow_any _ _).mono ?_; rintro r w' ⟨rfl, hw'⟩; obtain rfl := hw'.symm) | (go_at_call 25; refine (at_next P b n n p _ f _ hP1 (fun h => ⟨rfl, HW.out (p + 1) h⟩) hn).mono ?_; rintro r w' ⟨rfl, hw'⟩; obtain rfl := hw'.symm))
          go_quiet ((go_at_call 27; exact Calls.quiet_of_same (isBlank_any _ _)))
          go_wp2
          go_ret
          exact ⟨rfl, (FI'.out _).2.1, (FI'.out _).2.2⟩
        · have d0 : (f p == 0) = false := flow_not hfl 0 (by decide)
          have d58 : (f p == 58) = false := flow_not hfl 58 (by decide)
          have d35 : (f p == 35) = false := flow_not hfl 35 (by decide)
          have hbr : brkB (f p) = false := flow_not_brk hfl
          have hbk : blankB (f p) = false := flow_not_blank hfl
          have FI := fun nq => line_fin (start := start) (wr := wr.drewN nq) hbP (below_drewN hbw nq) hrow HW.out (show ee ≤ n by omega)
          have hcv := fun nq => (FI nq).1
          have FI' : Hid _ := FI
          clear FI
          clear HBL HNB H4 H5 H6 H7
          go_wp2_with fail
          refine (at_any P b n n p _ f wr hP1 (fun h => ⟨rfl, HW.out p h⟩) hn).mono ?_
          rintro r w' ⟨rfl, hw'⟩
          obtain rfl := hw'.symm
          rw [hat.out]
          clear hat
          go_wp2_with (first | (go_at_call 26; refine (isBreak_any _ _).mono ?_; rintro r w' ⟨rfl, hw'⟩; obtain rfl := hw'.symm) | (go_at_call 27; refine (isBlank_any _ _).mono ?_; rintro r w' ⟨rfl, hw'⟩; obtain rfl := hw'.symm) | (go_at_call 28; refine (isEnd_any _ _).mono ?_; rintro r w' ⟨rfl, hw'⟩; obtain rfl := hw'.symm) | (go_at_call 29; refine (isFlow_any _ _).mono ?_; rintro r w' ⟨rfl, hw'⟩; obtain rfl := hw'.symm) | (go_at_call 25; refine (at_next P b n n p _ f _ hP1 (fun h => ⟨rfl, HW.out (p + 1) h⟩) hn).mono ?_; rintro r w' ⟨rfl, hw'⟩; obtain rfl := hw'.symm))
          go_quiet (fail)
          go_wp2_with (go_at_call 29; refine (isFlow_any _ _).mono ?_; rintro r w' ⟨rfl, hw'⟩; obtain rfl := hw'.symm)
          go_ret
          exact ⟨rfl, (FI'.out _).2.1, (FI'.out _).2.2⟩
      · have hat : Hid (atF f n p = 0) := by show atF f n p = 0; simp [atF]; omega
        have FI := line_fin (start := start) hbP hbw hrow HW.out (show ee ≤ n by omega)
        have hcv := FI.1
        have FI' : Hid _ := FI
        clear FI
        clear HBL HNB H4 H5 H6 H7
        go_wp2_with fail
        refine (at_any P b n n p _ f wr hP1 (fun h => ⟨rfl, HW.out p h⟩) hn).mono ?_
        rintro r w' ⟨rfl, hw'⟩
        obtain rfl := hw'.symm
        rw [hat.out]
        clear hat
        go_wp2_with (first | (go_at_call 26; refine (isBreak_any _ _).mono ?_; rintro r w' ⟨rfl, hw'⟩; obtain rfl := hw'.symm) | (go_at_call 27; refine (isBlank_any _ _).mono ?_; rintro r w' ⟨rfl, hw'⟩; obtain rfl := hw'.symm) | (go_at_call 28; refine (isEnd_any _ _).mono ?_; rintro r w' ⟨rfl, hw'⟩; obtain rfl := hw'.symm) | (go_at_call 29; refine (isFlow_any _ _).mono ?_; rintro r w' ⟨rfl, hw'⟩; obtain rfl := hw'.symm) | (go_at_call 25; refine (at_next P b n n p _ f _ hP1 (fun h => ⟨rfl, HW.out (p + 1) h⟩) hn).mono ?_; rintro r w' ⟨rfl, hw'⟩; obtain rfl := hw'.symm))
        go_ret
        exact ⟨rfl, FI'.out.2.1, FI'.out.2.2⟩
end Go.Proofs.Qxb6601229aMods
