/- ZZReplicas; the law's bound on lengths. -/
import Derived.Test.Qxb6602780aModsDom
namespace Go.Proofs.Qxb6602780aMods
open Go.ChangeShapes Go.WideShapes Go.ChangeAt Go.RowKit
set_option linter.unusedVariables false

/-- The three rows that a placer is made of, lying apart. -/
structure Rows3 (w : World) (bB bL bF n : Nat) (Br L F : Nat → Int) : Prop where
  b : w.rowIs bB 21 n (fun i => .int .i32 (Br i))
  l : w.rowIs bL 3 n (fun i => .int .i64 (L i))
  f : w.rowIs bF 3 n (fun i => .int .i64 (F i))
  bl : bB ≠ bL
  bf : bB ≠ bF
  lf : bL ≠ bF

set_option maxHeartbeats 800000 in
set_option maxRecDepth 20000 in
theorem zzrepl_any (bB bL bF n : Nat) (last next : Int) (Br L F : Nat → Int) (p r : Nat) (w : World) (hr3 : Rows3 w bB bL bF n Br L F) (hn2 : 2 ≤ n) (hn : n ≤ 4096) (hp1 : 1 ≤ p) (hpm : p ≤ 65536) (hr1 : 1 ≤ r) (hrn : r ≤ n) (hL : ∀ i, 0 ≤ L i ∧ L i ≤ 2000000000) :
    Calls Trym.prog 22 #[.slice (some ⟨bB, 0, none⟩) n n, .slice (some ⟨bL, 0, none⟩) n n, .slice (some ⟨bF, 0, none⟩) n n, .int .i64 last, .int .i64 next, .int .i64 p, .int .i64 r] w fun e w' => ∃ (s G g : Nat) (next' : Int) (L' F' : Nat → Int), s < n ∧ ¬ (s : Int) = last ∧
      e = .returned (.tuple #[.slice (some ⟨G, 0, none⟩) p p, .slice (some ⟨bL, 0, none⟩) n n, .slice (some ⟨bF, 0, none⟩) n n, .int .i64 s, .int .i64 next']) ∧
      w'.cell? ⟨G, 0, none⟩ = some (.slice (some ⟨g, 0, none⟩) r r) ∧ w'.cell? ⟨g, 0, none⟩ = some (.int .i32 (Br s)) ∧ w.heap.size ≤ G ∧ w.heap.size ≤ g ∧ Rows3 w' bB bL bF n Br L' F' ∧ (∀ i, 0 ≤ L' i ∧ L' i ≤ L i + 65536) ∧ Keeps (fun b => b = bL ∨ b = bF) w.heap.size w w' := by
  have HR : Hid (Rows3 w bB bL bF n Br L F) := hr3
  have HL : Hid (∀ i, 0 ≤ L i ∧ L i ≤ 2000000000) := hL
  have lB : bB < w.heap.size := hr3.b.lt
  have lL : bL < w.heap.size := hr3.l.lt
  have lF : bF < w.heap.size := hr3.f.lt
  clear hr3 hL
  obtain ⟨W, hW⟩ : ∃ W, W = w.alloc (.cells #[.slice (some ⟨bB, 0, none⟩) n n, .slice (some ⟨bL, 0, none⟩) n n, .slice (some ⟨bF, 0, none⟩) n n, .int .i64 last, .int .i64 next] 45) := ⟨_, rfl⟩
  have hBe : Below w.heap.size w W := by rw [hW]; exact (Below.refl _ _).alloc (Nat.le_refl _) _
  have hsz : W.heap.size = w.heap.size + 1 := by rw [hW]; simp
  have hPl : Placer W w.heap.size bB bL bF n last next Br L F := by
    refine ⟨?_, HR.out.b.of_block (hBe.block _ lB), HR.out.l.of_block (hBe.block _ lL), HR.out.f.of_block (hBe.block _ lF)⟩
    rw [hW]
    refine World.rowIs_alloc w _ 45 _ (fun i hi => ?_)
    simp at hi
    have : i = 0 ∨ i = 1 ∨ i = 2 ∨ i = 3 ∨ i = 4 := by omega
    rcases this with rfl | rfl | rfl | rfl | rfl <;> rfl
  have hAp : Apart w.heap.size bB bL bF := ⟨by omega, by omega, by omega, HR.out.bl, HR.out.bf, HR.out.lf⟩
  have HW : Hid (W = w.alloc (.cells #[.slice (some ⟨bB, 0, none⟩) n n, .slice (some ⟨bL, 0, none⟩) n n, .slice (some ⟨bF, 0, none⟩) n n, .int .i64 last, .int .i64 next] 45)) := hW
  have HSZ : Hid (W.heap.size = w.heap.size + 1) := hsz
  have HPl : Hid (Placer W w.heap.size bB bL bF n last next Br L F) := hPl
  have HBe : Hid (Below w.heap.size w W) := hBe
  have HAp : Hid (Apart w.heap.size bB bL bF) := hAp
  clear hW hsz hPl hBe hAp
  go_enter Trym.func22, Trym.ntmps22
  go_wp2_with fail
  rw [← HW.out]
  refine (repl_any w.heap.size bB bL bF n last next Br L F p r W HPl.out HAp.out hn2 hn hp1 hpm hr1 hrn HL.out).mono ?_
  rintro e w1 ⟨s, G, g, next', L', F', hs, hsl, rfl, hG0, hg0, hG, hg, hpl, hLb, hk⟩
  have q1 : w1.cell? ⟨w.heap.size, 1, none⟩ = some (.slice (some ⟨bL, 0, none⟩) n n) := hpl.p.cell (i := 1) (by decide)
  have q2 : w1.cell? ⟨w.heap.size, 2, none⟩ = some (.slice (some ⟨bF, 0, none⟩) n n) := hpl.p.cell (i := 2) (by decide)
  have q3 : w1.cell? ⟨w.heap.size, 3, none⟩ = some (.int .i64 s) := hpl.p.cell (i := 3) (by decide)
  have q4 : w1.cell? ⟨w.heap.size, 4, none⟩ = some (.int .i64 next') := hpl.p.cell (i := 4) (by decide)
  have hkk : Keeps (fun b => b = bL ∨ b = bF) w.heap.size w w1 := (Keeps.ofBelow HBe.out).trans ⟨hk.os, hk.tape, hk.output, hk.size, fun k hk1 hs => hk.block k (by have := HSZ.out; omega) (fun h => by rcases h with h | h | h; omega; exact hs (.inl h); exact hs (.inr h))⟩
  have RES : Hid (w1.cell? ⟨G, 0, none⟩ = some (.slice (some ⟨g, 0, none⟩) r r) ∧ w1.cell? ⟨g, 0, none⟩ = some (.int .i32 (Br s)) ∧ w.heap.size ≤ G ∧ w.heap.size ≤ g ∧ Rows3 w1 bB bL bF n Br L' F' ∧ (∀ i, 0 ≤ L' i ∧ L' i ≤ L i + 65536) ∧ Keeps (fun b => b = bL ∨ b = bF) w.heap.size w w1) :=
    ⟨hG0, hg0, by have := HSZ.out; omega, by have := HSZ.out; omega, ⟨hpl.b, hpl.l, hpl.f, HR.out.bl, HR.out.bf, HR.out.lf⟩, hLb, hkk⟩
  have HS : Hid (¬ (s : Int) = last) := hsl
  clear hG0 hg0 hG hg hpl hLb hk hkk hsl
  go_wp2
  go_quiet (fail)
  go_wp2
  refine bodyPost_ret (v := .tuple #[.slice (some ⟨G, 0, none⟩) p p, .slice (some ⟨bL, 0, none⟩) n n, .slice (some ⟨bF, 0, none⟩) n n, .int .i64 s, .int .i64 next']) (by simp [results, Trym.results22, go_sem]) rfl ?_
  obtain ⟨r1, r2, r3, r4, r5, r6, r7⟩ := RES.out
  exact ⟨s, G, g, next', L', F', hs, HS.out, rfl, r1, r2, r3, r4, ⟨r5.b, r5.l, r5.f, r5.bl, r5.bf, r5.lf⟩, r6, r7.trans (Keeps.ofBelow (below_drewN (Below.refl _ _) _))⟩

theorem zzb26_yes (a0 a1 a2 : Option Addr) (n0 n1 n2 c0 c1 c2 : Nat) (x3 x4 x5 x6 x7 : Int) (w : World) (h : n0 + n1 + n2 ≤ 1048576) :
    Calls Trym.prog 26 #[.slice a0 n0 c0, .slice a1 n1 c1, .slice a2 n2 c2, .int .i64 x3, .int .i64 x4, .int .i64 x5, .int .i64 x6, .int .i64 x7] w fun e w' => e = .returned (.bool true) ∧ w' = w := by
  go_enter Trym.func26, Trym.ntmps26
  go_wp2
  go_ret
  exact ⟨rfl, rfl⟩

theorem zzb26_no (a0 a1 a2 : Option Addr) (n0 n1 n2 c0 c1 c2 : Nat) (x3 x4 x5 x6 x7 : Int) (w : World) (h : 1048576 < n0 + n1 + n2) (m0 : n0 ≤ maxLen) (m1 : n1 ≤ maxLen) (m2 : n2 ≤ maxLen) :
    Calls Trym.prog 26 #[.slice a0 n0 c0, .slice a1 n1 c1, .slice a2 n2 c2, .int .i64 x3, .int .i64 x4, .int .i64 x5, .int .i64 x6, .int .i64 x7] w fun e w' => e = .returned (.bool false) ∧ w' = w := by
  unfold maxLen at m0 m1 m2
  by_cases h0 : n0 ≤ 1048576
  · by_cases h1 : n1 ≤ 1048576
    · by_cases h01 : n0 + n1 ≤ 1048576
      · by_cases h2 : n2 ≤ 1048576
        all_goals
          go_enter Trym.func26, Trym.ntmps26
          go_wp2
          go_ret
          exact ⟨rfl, rfl⟩
      · go_enter Trym.func26, Trym.ntmps26
        go_wp2
        go_ret
        exact ⟨rfl, rfl⟩
    · go_enter Trym.func26, Trym.ntmps26
      go_wp2
      go_ret
      exact ⟨rfl, rfl⟩
  · go_enter Trym.func26, Trym.ntmps26
    go_wp2
    go_ret
    exact ⟨rfl, rfl⟩
end Go.Proofs.Qxb6602780aMods
