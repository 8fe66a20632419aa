/- (*placer).start. -/
import Derived.Test.Qxb6602780aModsLower
import Derived.Deep.OwnRows
import Derived.BigRegion
import Derived.Deep.LoopGhost
import Derived.Deep.DeepCutAuto
namespace Go.Proofs.Qxb6602780aMods
open Go.ChangeShapes Go.WideShapes Go.ChangeAt Go.RowKit
set_option linter.unusedVariables false

/-- A placer in memory: its block, its brokers' block, its leads', its firsts'. -/
structure Placer (w : World) (P bB bL bF n : Nat) (last next : Int) (Br L F : Nat → Int) : Prop where
  p : w.rowIs P 45 5 (fun i => if i = 0 then .slice (some ⟨bB, 0, none⟩) n n else if i = 1 then .slice (some ⟨bL, 0, none⟩) n n else if i = 2 then .slice (some ⟨bF, 0, none⟩) n n else if i = 3 then .int .i64 last else .int .i64 next)
  b : w.rowIs bB 21 n (fun i => .int .i32 (Br i))
  l : w.rowIs bL 3 n (fun i => .int .i64 (L i))
  f : w.rowIs bF 3 n (fun i => .int .i64 (F i))

theorem wrap_id {x : Int} (h0 : -9223372036854775808 ≤ x) (h1 : x ≤ 9223372036854775807) : IntKind.i64.wrap x = x := by
  rw [IntKind.wrap_i64]; omega
theorem idx_rem {x : Int} {n : Nat} (h0 : 0 ≤ x) (hn : 0 < n) : ∃ m : Nat, x.tmod n = m ∧ m < n := by
  rw [Int.tmod_eq_emod_of_nonneg h0]
  have a := Int.emod_nonneg x (show (n : Int) ≠ 0 by omega)
  have b := Int.emod_lt_of_pos x (show (0 : Int) < n by omega)
  exact ⟨(x % n).toNat, by omega, by omega⟩

/-- What is known of 'best' behind k places: none yet, all of them being 'last'; or one of them that is not. -/
def Best (last : Int) (k : Nat) (t : Int) : Prop := (t = -1 ∧ ∀ j : Nat, j < k → (j : Int) = last) ∨ ∃ b : Nat, b < k ∧ t = b ∧ ¬ (b : Int) = last

theorem set3 {w : World} {b : Nat} {f : Nat → Value} (h : w.rowIs b 22 3 f) (A : Nat → Int) : (((w.setCell ⟨b, 0, none⟩ (.int .i64 (A 0))).setCell ⟨b, 1, none⟩ (.int .i64 (A 1))).setCell ⟨b, 2, none⟩ (.int .i64 (A 2))).rowIs b 22 3 (fun i => .int .i64 (A i)) := by
  refine (((h.set 0 _).set 1 _).set 2 _).congr fun j hj => ?_
  have : j = 0 ∨ j = 1 ∨ j = 2 := by omega
  rcases this with rfl | rfl | rfl <;> rfl

theorem best_end {last : Int} {k : Nat} {t : Int} (h : Best last k t) (hk : 2 ≤ k) : ∃ b : Nat, b < k ∧ t = b ∧ ¬ (b : Int) = last := by
  rcases h with ⟨h1, h2⟩ | h
  · have := h2 0 (by omega); have := h2 1 (by omega); omega
  · exact h

def tri3 (x y z : Int) (i : Nat) : Int := if i = 0 then x else if i = 1 then y else z
theorem row3 (w : World) (x y z : Int) : (w.alloc (.cells #[.int .i64 x, .int .i64 y, .int .i64 z] 22)).rowIs w.heap.size 22 3 (fun i => .int .i64 (tri3 x y z i)) := by
  refine World.rowIs_alloc w _ 22 _ (fun i hi => ?_)
  simp at hi
  have : i = 0 ∨ i = 1 ∨ i = 2 := by omega
  rcases this with rfl | rfl | rfl <;> rfl

theorem best_skip {last : Int} {k : Nat} {t : Int} (h : Best last k t) (hk : (k : Int) = last) : Best last (k + 1) t := by
  rcases h with ⟨h1, h2⟩ | ⟨b, h1, h2, h3⟩
  · exact .inl ⟨h1, fun j hj => by
      by_cases e : j = k
      · subst e; exact hk
      · exact h2 j (by omega)⟩
  · exact .inr ⟨b, by omega, h2, h3⟩
theorem best_take {last : Int} {k : Nat} (hk : ¬ (k : Int) = last) : Best last (k + 1) k := .inr ⟨k, by omega, rfl, hk⟩
theorem best_keep {last : Int} {k : Nat} {t : Int} (h : Best last k t) (ht : ¬ t = -1) : Best last (k + 1) t := by
  rcases h with ⟨h1, h2⟩ | ⟨b, h1, h2, h3⟩
  · exact absurd h1 ht
  · exact .inr ⟨b, by omega, h2, h3⟩

set_option maxHeartbeats 1000000 in
set_option maxRecDepth 20000 in
theorem start_any (P bB bL bF n : Nat) (last next : Int) (Br L F : Nat → Int) (extra : Nat) (w : World) (hp : Placer w P bB bL bF n last next Br L F) (hn2 : 2 ≤ n) (hn : n ≤ 4096) (he : extra < n) :
    Calls Trym.prog 28 #[.pointer (some ⟨P, 0, none⟩), .int .i64 extra] w fun e w' => ∃ s : Nat, s < n ∧ ¬ (s : Int) = last ∧ e = .returned (.int .i64 s) ∧ Below w.heap.size w w' := by
  have p0 : w.cell? ⟨P, 0, none⟩ = some (.slice (some ⟨bB, 0, none⟩) n n) := hp.p.cell (i := 0) (by decide)
  have p1 : w.cell? ⟨P, 1, none⟩ = some (.slice (some ⟨bL, 0, none⟩) n n) := hp.p.cell (i := 1) (by decide)
  have p2 : w.cell? ⟨P, 2, none⟩ = some (.slice (some ⟨bF, 0, none⟩) n n) := hp.p.cell (i := 2) (by decide)
  have p3 : w.cell? ⟨P, 3, none⟩ = some (.int .i64 last) := hp.p.cell (i := 3) (by decide)
  have p4 : w.cell? ⟨P, 4, none⟩ = some (.int .i64 next) := hp.p.cell (i := 4) (by decide)
  have hl : Hid (w.rowIs bL 3 n (fun i => .int .i64 (L i))) := hp.l
  have hf : Hid (w.rowIs bF 3 n (fun i => .int .i64 (F i))) := hp.f
  have hPz : P < w.heap.size := hp.p.lt
  clear hp
  go_enter Trym.func28, Trym.ntmps28
  go_wp2
  go_loop [6, 18] (fun x i => ∃ (k : Nat) (z : Int), k ≤ extra ∧ i = .int .i64 k ∧ x = .int .i64 z) (fun _ i => (extra - intOf i).toNat)
  case atStart => exact ⟨0, 0, Nat.zero_le _, rfl, rfl⟩
  case round =>
    obtain ⟨k, z, hk, rfl, rfl⟩ := hrel
    by_cases hlt : k < extra
    · have hc : w.cell? ⟨bL, k, none⟩ = some (.int .i64 (L k)) := hl.out.cell (by omega)
      go_wp2
      go_round
      case rel => exact ⟨k + 1, _, by omega, by go_num, rfl⟩
      case measure => simp [intOf]; omega
    · go_wp2
      go_loopg [6, 8, 33] n (fun g x bst i wr => ∃ (k : Nat) (z t : Int) (R : Nat → Int), g = n - k ∧ k ≤ n ∧ i = .int .i64 k ∧ x = .int .i64 z ∧ bst = .int .i64 t ∧ Best last k t ∧ Below w.heap.size w wr ∧ wr.rowIs w.heap.size 22 3 (fun i => .int .i64 (R i)))
      case atStart =>
        refine ⟨0, _, -1, fun _ => 0, rfl, Nat.zero_le _, rfl, rfl, rfl, .inl ⟨rfl, fun j h => by omega⟩, (Below.refl _ _).alloc (Nat.le_refl _) _, World.rowIs_alloc w _ 22 _ (fun i hi => ?_)⟩
        simp at hi
        have : i = 0 ∨ i = 1 ∨ i = 2 := by omega
        rcases this with rfl | rfl | rfl <;> rfl
      case round =>
        clear hk hlt
        obtain ⟨k, z, t, R, rfl, hk, rfl, rfl, rfl, hbest, hbw, hrow⟩ := hrel
        have HB : Hid (Best last k t) := hbest
        clear hbest
        have Q1 : Hid (∀ wr : World, Below w.heap.size w wr → wr.cell? ⟨P, 1, none⟩ = some (.slice (some ⟨bL, 0, none⟩) n n) ∧ wr.cell? ⟨P, 2, none⟩ = some (.slice (some ⟨bF, 0, none⟩) n n) ∧ wr.cell? ⟨P, 3, none⟩ = some (.int .i64 last) ∧ wr.cell? ⟨P, 4, none⟩ = some (.int .i64 next)) := fun wr hb => ⟨(hb.cell hPz).trans p1, (hb.cell hPz).trans p2, (hb.cell hPz).trans p3, (hb.cell hPz).trans p4⟩
        have hL : Hid (∀ wr : World, Below w.heap.size w wr → ∀ i, i < n → wr.cell? ⟨bL, i, none⟩ = some (.int .i64 (L i))) := fun wr hb i hi => (hb.cell hl.out.lt).trans (hl.out.cell hi)
        have hF : Hid (∀ wr : World, Below w.heap.size w wr → ∀ i, i < n → wr.cell? ⟨bF, i, none⟩ = some (.int .i64 (F i))) := fun wr hb i hi => (hb.cell hf.out.lt).trans (hf.out.cell hi)
        have hFz : bF < w.heap.size := hf.out.lt
        clear p0 p1 p2 p3 p4
        by_cases hlt : k < n
        · go_upto_if 37 with fail
          go_cut [6] (fun x wc => ∃ z' : Int, x = .int .i64 z' ∧ Below w.heap.size w wc ∧ wc.rowIs w.heap.size 22 3 (fun i => .int .i64 (R i)))
          case first =>
            have q1 := (Q1.out wr hbw).1
            by_cases hk0 : 0 < k
            · have hn0 : ¬ n = 0 := by omega
              have c1 := hL.out wr hbw (k - 1) (by omega)
              obtain ⟨m, hm, hmn⟩ : ∃ m : Nat, ((k : Int) + extra - 1).tmod n = m ∧ m < n := idx_rem (by omega) (by omega)
              have c2 := hL.out wr hbw m hmn
              have e1 : IntKind.i64.wrap ((k : Int) + extra) = (k : Int) + extra := wrap_id (by omega) (by omega)
              have e2 : IntKind.i64.wrap ((k : Int) + extra - 1) = (k : Int) + extra - 1 := wrap_id (by omega) (by omega)
              have e3 : IntKind.i64.wrap ((k : Int) - 1) = ((k - 1 : Nat) : Int) := by rw [wrap_id (by omega) (by omega)]; omega
              have HW : Hid (Below w.heap.size w wr) := hbw
              have HR : Hid (wr.rowIs w.heap.size 22 3 (fun i => .int .i64 (R i))) := hrow
              clear hbw hrow
              go_wp2
              go_quiet (fail)
              go_wp2
              go_meet
              case rel => exact ⟨_, rfl, below_drewN HW.out _, HR.out⟩
            · have HW : Hid (Below w.heap.size w wr) := hbw
              have HR : Hid (wr.rowIs w.heap.size 22 3 (fun i => .int .i64 (R i))) := hrow
              clear hbw hrow
              go_wp2
              go_meet
              case rel => exact ⟨_, rfl, HW.out, HR.out⟩
          case rest =>
            obtain ⟨z', rfl, hbw', hrow'⟩ := hcut
            clear hbw hrow
            obtain ⟨_, q2, q3, q4⟩ := Q1.out wc hbw'
            by_cases hkl : (k : Int) = last
            · have HK : Hid ((k : Int) = last) := hkl
              have hkl' : ((k : Int) == last) = true := by simpa using hkl
              have HW : Hid (Below w.heap.size w wc) := hbw'
              have HR : Hid (wc.rowIs w.heap.size 22 3 (fun i => .int .i64 (R i))) := hrow'
              clear hkl hbw' hrow' q2 q4
              go_wp2
              go_roundg (n - (k + 1))
              case measure => omega
              case rel => exact ⟨k + 1, _, _, R, rfl, by omega, by go_num, rfl, rfl, best_skip HB.out HK.out, HW.out, HR.out⟩
            · have HK : Hid (¬ (k : Int) = last) := hkl
              have hkl' : ((k : Int) == last) = false := by simpa using hkl
              have hz : w.heap.size < wc.heap.size := hrow'.lt
              have hPc : P < wc.heap.size := by omega
              have hFc : bF < wc.heap.size := by omega
              have c3 := hF.out wc hbw' k hlt
              have hn0 : ¬ n = 0 := by omega
              clear hkl
              have HW : Hid (Below w.heap.size w wc) := hbw'
              have HR : Hid (wc.rowIs w.heap.size 22 3 (fun i => .int .i64 (R i))) := hrow'
              clear hbw' hrow'
              go_upto_region 15 with fail
              go_cut [11] (fun a wd => ∃ (g : Nat) (A : Nat → Int), a = .pointer (some ⟨g, 0, none⟩) ∧ w.heap.size < g ∧ wd.rowIs g 22 3 (fun i => .int .i64 (A i)) ∧ wd.rowIs w.heap.size 22 3 (fun i => .int .i64 (R i)) ∧ Below w.heap.size w wd)
              case first =>
                go_region
                go_wp2
                go_meet
                case rel => exact ⟨wc.heap.size, tri3 _ _ _, rfl, hz, row3 wc _ _ _, HR.out.alloc _, (HW.out.alloc (by omega) _).drew⟩
              case rest =>
                obtain ⟨wd, hwd⟩ : ∃ wd : World, wd = wc := ⟨_, rfl⟩
                subst hwd
                obtain ⟨g, A, rfl, hg, hrA, hrR, hbd⟩ := hcut
                have x0 : wd.cell? ⟨g, 0, none⟩ = some (.int .i64 (A 0)) := hrA.cell (by decide)
                have x1 : wd.cell? ⟨g, 1, none⟩ = some (.int .i64 (A 1)) := hrA.cell (by decide)
                have x2 : wd.cell? ⟨g, 2, none⟩ = some (.int .i64 (A 2)) := hrA.cell (by decide)
                have y0 : wd.cell? ⟨w.heap.size, 0, none⟩ = some (.int .i64 (R 0)) := hrR.cell (by decide)
                have y1 : wd.cell? ⟨w.heap.size, 1, none⟩ = some (.int .i64 (R 1)) := hrR.cell (by decide)
                have y2 : wd.cell? ⟨w.heap.size, 2, none⟩ = some (.int .i64 (R 2)) := hrR.cell (by decide)
                have f0 : wd.frozen? ⟨w.heap.size, 0, none⟩ = false := hrR.frozen 0
                have f1 : wd.frozen? ⟨w.heap.size, 1, none⟩ = false := hrR.frozen 1
                have f2 : wd.frozen? ⟨w.heap.size, 2, none⟩ = false := hrR.frozen 2
                have GA : Hid (wd.rowIs g 22 3 (fun i => .int .i64 (A i))) := hrA
                have GR : Hid (wd.rowIs w.heap.size 22 3 (fun i => .int .i64 (R i))) := hrR
                have GW : Hid (Below w.heap.size w wd) := hbd
                clear hrA hrR hbd HW HR q2 q3 q4 c3
                by_cases ht : t = -1
                · subst ht
                  go_wp2_with fail
                  go_region
                  go_wp2
                  go_roundg (n - (k + 1))
                  case measure => omega
                  case rel => exact ⟨k + 1, _, _, A, rfl, by omega, by go_num, rfl, rfl, best_take HK.out, (((GW.out.setCell (by simp) _).setCell (by simp) _).setCell (by simp) _).drew, set3 GR.out A⟩
                · have ht' : (t == -1) = false := by simpa using ht
                  have HT : Hid (¬ t = -1) := ht
                  clear ht
                  go_wp2_with fail
                  refine (lower_any _ _ _ _ _ _ _).mono ?_
                  rintro r we ⟨rfl, hbe⟩
                  cases hlo : lowB (A 0) (A 1) (A 2) (R 0) (R 1) (R 2) with
                  | true =>
                    clear x0 x1 x2 y0 y1 y2 f0 f1 f2
                    have ER : we.rowIs w.heap.size 22 3 (fun i => .int .i64 (R i)) := GR.out.of_block (hbe.block _ (by have := GR.out.lt; omega))
                    have EA : we.rowIs g 22 3 (fun i => .int .i64 (A i)) := GA.out.of_block (hbe.block _ (by have := GA.out.lt; omega))
                    have EW : Below w.heap.size w we := GW.out.trans (hbe.mono (by have := GW.out.size; omega))
                    have x0 : we.cell? ⟨g, 0, none⟩ = some (.int .i64 (A 0)) := EA.cell (by decide)
                    have x1 : we.cell? ⟨g, 1, none⟩ = some (.int .i64 (A 1)) := EA.cell (by decide)
                    have x2 : we.cell? ⟨g, 2, none⟩ = some (.int .i64 (A 2)) := EA.cell (by decide)
                    have y0 : we.cell? ⟨w.heap.size, 0, none⟩ = some (.int .i64 (R 0)) := ER.cell (by decide)
                    have y1 : we.cell? ⟨w.heap.size, 1, none⟩ = some (.int .i64 (R 1)) := ER.cell (by decide)
                    have y2 : we.cell? ⟨w.heap.size, 2, none⟩ = some (.int .i64 (R 2)) := ER.cell (by decide)
                    have f0 : we.frozen? ⟨w.heap.size, 0, none⟩ = false := ER.frozen 0
                    have f1 : we.frozen? ⟨w.heap.size, 1, none⟩ = false := ER.frozen 1
                    have f2 : we.frozen? ⟨w.heap.size, 2, none⟩ = false := ER.frozen 2
                    have FR : Hid (we.rowIs w.heap.size 22 3 (fun i => .int .i64 (R i))) := ER
                    have FW : Hid (Below w.heap.size w we) := EW
                    clear ER EA EW hbe GA GR GW
                    go_wp2
                    go_region
                    go_wp2
                    go_roundg (n - (k + 1))
                    case measure => omega
                    case rel => exact ⟨k + 1, _, _, A, rfl, by omega, by go_num, rfl, rfl, best_take HK.out, (((FW.out.setCell (by simp) _).setCell (by simp) _).setCell (by simp) _).drew, set3 FR.out A⟩
                  | false =>
                    clear x0 x1 x2 y0 y1 y2 f0 f1 f2
                    go_wp2
                    go_roundg (n - (k + 1))
                    case measure => omega
                    case rel => exact ⟨k + 1, _, _, R, rfl, by omega, by go_num, rfl, rfl, best_keep HB.out HT.out, GW.out.trans (hbe.mono (by have := GW.out.size; omega)), GR.out.of_block (hbe.block _ (by have := GR.out.lt; omega))⟩
        · have hkn : k = n := by omega
          have HW : Hid (Below w.heap.size w wr) := hbw
          obtain ⟨b, hb1, hb2, hb3⟩ := best_end HB.out (by omega)
          clear hbw hrow
          go_wp2
          go_ret
          exact ⟨b, by omega, hb3, by rw [hb2]; rfl, HW.out⟩
end Go.Proofs.Qxb6602780aMods
