/- (*placer).replicas. -/
import Derived.Test.Qxb6602780aModsStart
namespace Go.Proofs.Qxb6602780aMods
open Go.ChangeShapes Go.WideShapes Go.ChangeAt Go.RowKit
set_option linter.unusedVariables false

theorem Trym.info21 : (Trym.prog.info? 21).map (fun i => (i.zero, i.size, i.bytes)) = some (some (.int .i32 0), 1, 4) := by kernel_rfl
theorem Trym.info25 : (Trym.prog.info? 25).map (fun i => (i.zero, i.size, i.bytes)) = some (some (.slice none 0 0), 1, 24) := by kernel_rfl

/-- Below B all blocks but those of S are as they were. -/
structure Keeps (S : Nat → Prop) (B : Nat) (w w' : World) : Prop where
  os : w'.os = w.os
  tape : w'.tape = w.tape
  output : w'.output = w.output
  size : w.heap.size ≤ w'.heap.size
  block : ∀ k, k < B → ¬ S k → w'.heap[k]? = w.heap[k]?

namespace Keeps
variable {S : Nat → Prop} {B : Nat} {a b c : World}
theorem refl (S : Nat → Prop) (B : Nat) (w : World) : Keeps S B w w := ⟨rfl, rfl, rfl, Nat.le_refl _, fun _ _ _ => rfl⟩
theorem trans (h : Keeps S B a b) (k : Keeps S B b c) : Keeps S B a c :=
  ⟨k.os.trans h.os, k.tape.trans h.tape, k.output.trans h.output, Nat.le_trans h.size k.size, fun i hi hs => (k.block i hi hs).trans (h.block i hi hs)⟩
theorem ofBelow (h : Below B a b) : Keeps S B a b := ⟨h.os, h.tape, h.output, h.size, fun k hk _ => h.block k hk⟩
theorem below (h : Keeps S B a b) {B' : Nat} (hB : B' ≤ B) (hS : ∀ k, S k → B' ≤ k) : Below B' a b :=
  ⟨h.os, h.tape, h.output, h.size, fun k hk => h.block k (by omega) (fun s => by have := hS k s; omega)⟩
theorem setCell (h : Keeps S B a b) {p : Addr} (hp : S p.block ∨ B ≤ p.block) (u : Value) : Keeps S B a (b.setCell p u) :=
  h.trans ⟨rfl, rfl, rfl, by simp [World.setCell], fun k hk hs => Below.heap_setCell _ _ _ _ (fun e => by subst e; rcases hp with h | h; exact hs h; omega)⟩
theorem mono {B' : Nat} {S' : Nat → Prop} (h : Keeps S B a b) (hB : B' ≤ B) (hS : ∀ k, S k → S' k) : Keeps S' B' a b :=
  ⟨h.os, h.tape, h.output, h.size, fun k hk hs => h.block k (by omega) (fun s => hs (hS k s))⟩
theorem row (h : Keeps S B a b) {g : Nat} {t : TypeId} {n : Nat} {f : Nat → Value} (hr : a.rowIs g t n f) (hg : g < B) (hs : ¬ S g) : b.rowIs g t n f := hr.of_block (h.block g hg hs)
end Keeps

/-- The placer's blocks lie apart. -/
structure Apart (P bB bL bF : Nat) : Prop where
  pb : P ≠ bB
  pl : P ≠ bL
  pf : P ≠ bF
  bl : bB ≠ bL
  bf : bB ≠ bF
  lf : bL ≠ bF

theorem Placer.below {w w' : World} {P bB bL bF n : Nat} {last next : Int} {Br L F : Nat → Int} (h : Placer w P bB bL bF n last next Br L F) (hb : Below w.heap.size w w') : Placer w' P bB bL bF n last next Br L F :=
  ⟨h.p.of_block (hb.block _ h.p.lt), h.b.of_block (hb.block _ h.b.lt), h.l.of_block (hb.block _ h.l.lt), h.f.of_block (hb.block _ h.f.lt)⟩

theorem lead_idx {n s k : Nat} (hs : s < n) : ∃ m : Nat, ((s : Int) + k) % n = m ∧ m < n ∧ (k = 0 → m = s) := by
  refine ⟨(s + k) % n, by simp, Nat.mod_lt _ (by omega), fun h => ?_⟩
  subst h; simp [Nat.mod_eq_of_lt hs]

theorem idx_two {x y : Int} {n : Nat} (h0 : 0 ≤ x) (hy : 0 < y) (hyn : y ≤ n) : ∃ m : Nat, x.tmod y = m ∧ x % y = m ∧ m < n := by
  rw [Int.tmod_eq_emod_of_nonneg h0]
  have a := Int.emod_nonneg x (show y ≠ 0 by omega)
  have b := Int.emod_lt_of_pos x hy
  exact ⟨(x % y).toNat, by omega, by omega, by omega⟩

theorem made_zero {r : Nat} (h : 0 < r) : (madeCells #[Value.int IntKind.i32 0] r)[0]? = some (.int .i32 0) := by
  simp [madeCells, h]
theorem made_first (w : World) (b : Int) {r : Nat} (h : 0 < r) : (w.alloc (.cells ((madeCells #[Value.int IntKind.i32 0] r).setIfInBounds 0 (.int .i32 b)) 21)).rowIs w.heap.size 21 r (fun i => .int .i32 ((fun i => if i = 0 then b else 0) i)) := by
  have hsz : ((madeCells #[Value.int IntKind.i32 0] r).setIfInBounds 0 (.int .i32 b)).size = r := by simp [size_madeCells]
  have := World.rowIs_alloc w ((madeCells #[Value.int IntKind.i32 0] r).setIfInBounds 0 (.int .i32 b)) 21 (fun i => .int .i32 ((fun i => if i = 0 then b else 0) i)) (fun i hi => by
    rw [hsz] at hi
    rw [Array.getElem?_setIfInBounds]
    by_cases e : i = 0
    · subst e; simp [size_madeCells, h]
    · rw [if_neg (fun h => e h.symm)]
      simp [madeCells, hi, e, Nat.mod_one])
  rw [hsz] at this
  exact this

/-- The outer loop, k partitions placed: of the call's own memory. G: the block of 'placed'. -/
structure Outer (P bB bL bF n : Nat) (last next : Int) (Br L F : Nat → Int) (p r s G : Nat) (w wr : World) (k : Nat) : Prop where
  keeps : Keeps (fun b => b = P ∨ b = bL ∨ b = bF) w.heap.size w wr
  rest : ∃ (V : Nat → Value) (L' : Nat → Int), Placer wr P bB bL bF n last next Br L' F ∧ (∀ i, 0 ≤ L' i ∧ L' i ≤ L i + k) ∧ wr.rowIs G 25 p V ∧
    (0 < k → ∃ g, V 0 = .slice (some ⟨g, 0, none⟩) r r ∧ w.heap.size ≤ g ∧ g ≠ G ∧ g < wr.heap.size ∧ wr.cell? ⟨g, 0, none⟩ = some (.int .i32 (Br s)))

theorem cell_set_other {w : World} {a : Addr} {u : Value} {b o : Nat} (h : b ≠ a.block) : (w.setCell a u).cell? ⟨b, o, none⟩ = w.cell? ⟨b, o, none⟩ :=
  World.cell?_of_block (w := w) (Below.heap_setCell w a u b h)

theorem outer_step {P bB bL bF n : Nat} {last next : Int} {Br L L' F X : Nat → Int} {V : Nat → Value} {p r s G m k : Nat} {w wo wi : World}
    (hO : Keeps (fun b => b = P ∨ b = bL ∨ b = bF) w.heap.size w wo) (hPL : Placer wo P bB bL bF n last next Br L' F) (hLb : ∀ i, 0 ≤ L' i ∧ L' i ≤ L i + k) (hRG : wo.rowIs G 25 p V)
    (hG0 : 0 < k → ∃ g, V 0 = .slice (some ⟨g, 0, none⟩) r r ∧ w.heap.size ≤ g ∧ g ≠ G ∧ g < wo.heap.size ∧ wo.cell? ⟨g, 0, none⟩ = some (.int .i32 (Br s))) (hm0 : k = 0 → m = s)
    (hBI : Below wo.heap.size wo wi) (hRI : wi.rowIs wo.heap.size 21 r (fun i => .int .i32 (X i))) (hX0 : X 0 = Br m) (hG : w.heap.size ≤ G) (ha : Apart P bB bL bF) (lP : P < w.heap.size) (lB : bB < w.heap.size) (lL : bL < w.heap.size) (lF : bF < w.heap.size) (hk : k < p) (hr : 1 ≤ r) :
    Outer P bB bL bF n last next Br L F p r s G w ((wi.setCell ⟨bL, m, none⟩ (.int .i64 (L' m + 1))).setCell ⟨G, k, none⟩ (.slice (some ⟨wo.heap.size, 0, none⟩) r r)) (k + 1) := by
  have hGo : G < wo.heap.size := hRG.lt
  have hPi := hPL.below hBI
  have hGi : wi.rowIs G 25 p V := hRG.of_block (hBI.block G hGo)
  refine ⟨hO.trans (((Keeps.ofBelow (hBI.mono hO.size)).setCell (.inl (.inr (.inl rfl))) _).setCell (.inr hG) _), fun i => if i = k then .slice (some ⟨wo.heap.size, 0, none⟩) r r else V i, fun i => if i = m then L' m + 1 else L' i, ?_, ?_, ?_, ?_⟩
  · refine ⟨(hPi.p.setOther ha.pl _).setOther (by show P ≠ G; omega) _, (hPi.b.setOther ha.bl _).setOther (by show bB ≠ G; omega) _, (((hPi.l.set m _).setOther (by show bL ≠ G; omega) _).congr fun j hj => ?_), (hPi.f.setOther (Ne.symm ha.lf) _).setOther (by show bF ≠ G; omega) _⟩
    by_cases e : j = m <;> simp [e]
  · intro i
    have := hLb i
    by_cases e : i = m
    · subst e; simp; omega
    · simp [e]; omega
  · exact (hGi.setOther (by show G ≠ bL; omega) _).set k _
  · intro _
    by_cases k0 : k = 0
    · refine ⟨wo.heap.size, by simp [k0], hO.size, by omega, ?_, ?_⟩
      · have := hRI.lt; simpa [World.setCell] using this
      · rw [cell_set_other (by show wo.heap.size ≠ G; omega), cell_set_other (by show wo.heap.size ≠ bL; have := hO.size; omega), hRI.cell (by omega), hX0, hm0 k0]
    · obtain ⟨g, h1, h2, h3, h4, h5⟩ := hG0 (by omega)
      refine ⟨g, ?_, h2, h3, ?_, ?_⟩
      · show (if (0 : Nat) = k then Value.slice (some ⟨wo.heap.size, 0, none⟩) r r else V 0) = _
        rw [if_neg (by omega)]; exact h1
      · have := hBI.size
        have : g < wi.heap.size := by omega
        simpa [World.setCell] using this
      · rw [cell_set_other h3, cell_set_other (by show g ≠ bL; omega), hBI.cell h4]; exact h5

theorem repl_end {P bB bL bF n : Nat} {last next x y : Int} {Br L L' F : Nat → Int} {V : Nat → Value} {k r s g G : Nat} {w wr : World}
    (hO : Keeps (fun b => b = P ∨ b = bL ∨ b = bF) w.heap.size w wr) (hPL : Placer wr P bB bL bF n last next Br L' F) (hLb : ∀ i, 0 ≤ L' i ∧ L' i ≤ L i + k) (hRG : wr.rowIs G 25 k V)
    (hG0 : V 0 = .slice (some ⟨g, 0, none⟩) r r ∧ w.heap.size ≤ g ∧ g ≠ G ∧ g < wr.heap.size ∧ wr.cell? ⟨g, 0, none⟩ = some (.int .i32 (Br s))) (hG : w.heap.size ≤ G) (ha : Apart P bB bL bF) (lP : P < w.heap.size) (lL : bL < w.heap.size) (lF : bF < w.heap.size) (hk : 1 ≤ k) (hkm : k ≤ 65536) :
    (((wr.setCell ⟨bF, s, none⟩ (.int .i64 y)).setCell ⟨P, 3, none⟩ (.int .i64 s)).setCell ⟨P, 4, none⟩ (.int .i64 x)).cell? ⟨G, 0, none⟩ = some (.slice (some ⟨g, 0, none⟩) r r) ∧
    (((wr.setCell ⟨bF, s, none⟩ (.int .i64 y)).setCell ⟨P, 3, none⟩ (.int .i64 s)).setCell ⟨P, 4, none⟩ (.int .i64 x)).cell? ⟨g, 0, none⟩ = some (.int .i32 (Br s)) ∧ w.heap.size ≤ G ∧ w.heap.size ≤ g ∧
    Placer (((wr.setCell ⟨bF, s, none⟩ (.int .i64 y)).setCell ⟨P, 3, none⟩ (.int .i64 s)).setCell ⟨P, 4, none⟩ (.int .i64 x)) P bB bL bF n s x Br L' (fun i => if i = s then y else F i) ∧ (∀ i, 0 ≤ L' i ∧ L' i ≤ L i + 65536) ∧
    Keeps (fun b => b = P ∨ b = bL ∨ b = bF) w.heap.size w (((wr.setCell ⟨bF, s, none⟩ (.int .i64 y)).setCell ⟨P, 3, none⟩ (.int .i64 s)).setCell ⟨P, 4, none⟩ (.int .i64 x)) := by
  obtain ⟨h1, h2, h3, h4, h5⟩ := hG0
  refine ⟨?_, ?_, hG, h2, ⟨?_, ?_, ?_, ?_⟩, fun i => ?_, ?_⟩
  · rw [cell_set_other (by show G ≠ P; omega), cell_set_other (by show G ≠ P; omega), cell_set_other (by show G ≠ bF; omega), hRG.cell (by omega), h1]
  · rw [cell_set_other (by show g ≠ P; omega), cell_set_other (by show g ≠ P; omega), cell_set_other (by show g ≠ bF; omega), h5]
  · refine (((hPL.p.setOther ha.pf _).set 3 _).set 4 _).congr fun j hj => ?_
    have : j = 0 ∨ j = 1 ∨ j = 2 ∨ j = 3 ∨ j = 4 := by omega
    rcases this with rfl | rfl | rfl | rfl | rfl <;> rfl
  · exact ((hPL.b.setOther ha.bf _).setOther (Ne.symm ha.pb) _).setOther (Ne.symm ha.pb) _
  · exact ((hPL.l.setOther ha.lf _).setOther (Ne.symm ha.pl) _).setOther (Ne.symm ha.pl) _
  · refine (((hPL.f.set s _).setOther (Ne.symm ha.pf) _).setOther (Ne.symm ha.pf) _).congr fun j hj => ?_
    by_cases e : j = s <;> simp [e]
  · have := hLb i; omega
  · exact hO.trans ((((Keeps.refl _ _ _).setCell (.inl (.inr (.inr rfl))) _).setCell (.inl (.inl rfl)) _).setCell (.inl (.inl rfl)) _)

set_option maxHeartbeats 2000000 in
set_option maxRecDepth 20000 in
theorem repl_any (P bB bL bF n : Nat) (last next : Int) (Br L F : Nat → Int) (p r : Nat) (w : World) (hp : Placer w P bB bL bF n last next Br L F) (ha : Apart P bB bL bF) (hn2 : 2 ≤ n) (hn : n ≤ 4096) (hp1 : 1 ≤ p) (hpm : p ≤ 65536) (hr1 : 1 ≤ r) (hrn : r ≤ n) (hL : ∀ i, 0 ≤ L i ∧ L i ≤ 2000000000) :
    Calls Trym.prog 29 #[.pointer (some ⟨P, 0, none⟩), .int .i64 p, .int .i64 r] w fun e w' => ∃ (s G g : Nat) (next' : Int) (L' F' : Nat → Int), s < n ∧ ¬ (s : Int) = last ∧ e = .returned (.slice (some ⟨G, 0, none⟩) p p) ∧
      w'.cell? ⟨G, 0, none⟩ = some (.slice (some ⟨g, 0, none⟩) r r) ∧ w'.cell? ⟨g, 0, none⟩ = some (.int .i32 (Br s)) ∧ w.heap.size ≤ G ∧ w.heap.size ≤ g ∧ Placer w' P bB bL bF n s next' Br L' F' ∧ (∀ i, 0 ≤ L' i ∧ L' i ≤ L i + 65536) ∧ Keeps (fun b => b = P ∨ b = bL ∨ b = bF) w.heap.size w w' := by
  have p0 : w.cell? ⟨P, 0, none⟩ = some (.slice (some ⟨bB, 0, none⟩) n n) := hp.p.cell (i := 0) (by decide)
  have HP : Hid (Placer w P bB bL bF n last next Br L F) := hp
  have HL : Hid (∀ i, 0 ≤ L i ∧ L i ≤ 2000000000) := hL
  clear hp hL
  have hmk := run_make_row' (P := Trym.prog) 37 25 (.slice none 0 0) 24 Trym.underlying37 Trym.info25 rfl .i64 .i64 p (by omega) (by omega)
  have hn0 : ¬ n = 0 := by omega
  go_enter Trym.func29, Trym.ntmps29
  go_wp2_with fail
  rw [show ((p : Int) % (n : Int)) = ((p % n : Nat) : Int) from (Int.natCast_emod p n).symm]
  refine (start_any P bB bL bF n last next Br L F (p % n) w HP.out hn2 hn (Nat.mod_lt _ (by omega))).mono ?_
  rintro e w1 ⟨s, hs, hsl, rfl, hb1⟩
  have HS : Hid (¬ (s : Int) = last) := hsl
  have HB1 : Hid (Below w.heap.size w w1) := hb1
  clear hsl hb1 p0
  go_wp2_with fail
  clear hmk
  go_loopg [28] p (fun g i wr => ∃ (k : Nat), g = p - k ∧ k ≤ p ∧ i = .int .i64 k ∧ Outer P bB bL bF n last next Br L F p r s w1.heap.size w wr k)
  case atStart =>
    refine ⟨0, rfl, Nat.zero_le _, rfl, ?_⟩
    have hb2 := HB1.out.alloc HB1.out.size (.cells (madeCells #[.slice none 0 0] p) 25)
    exact ⟨Keeps.ofBelow hb2, _, L, HP.out.below hb2, fun i => ⟨(HL.out i).1, by simp⟩, World.rowIs_made w1 (.slice none 0 0) p 25, fun h => by omega⟩
  case round =>
    obtain ⟨k, rfl, hk, rfl, hO⟩ := hrel
    by_cases hlt : k < p
    · obtain ⟨hkeep, V, L', hpl, hLb, hrG, hg0⟩ := hO
      obtain ⟨m, hm, hmn, hm0⟩ : ∃ m : Nat, ((s : Int) + k) % n = m ∧ m < n ∧ (k = 0 → m = s) := lead_idx hs
      have q0 : wr.cell? ⟨P, 0, none⟩ = some (.slice (some ⟨bB, 0, none⟩) n n) := hpl.p.cell (i := 0) (by decide)
      have q1 : wr.cell? ⟨P, 1, none⟩ = some (.slice (some ⟨bL, 0, none⟩) n n) := hpl.p.cell (i := 1) (by decide)
      have cb : wr.cell? ⟨bB, m, none⟩ = some (.int .i32 (Br m)) := hpl.b.cell hmn
      have lP : P < wr.heap.size := hpl.p.lt
      have lB : bB < wr.heap.size := hpl.b.lt
      have lL : bL < wr.heap.size := hpl.l.lt
      have hmk2 := run_make_row' (P := Trym.prog) 25 21 (.int .i32 0) 4 Trym.underlying25 Trym.info21 rfl .i64 .i64 r (by omega) (by omega)
      have HO : Hid (Keeps (fun b => b = P ∨ b = bL ∨ b = bF) w.heap.size w wr) := hkeep
      have HPL : Hid (Placer wr P bB bL bF n last next Br L' F) := hpl
      have HLB : Hid (∀ i, 0 ≤ L' i ∧ L' i ≤ L i + k) := hLb
      have HRG : Hid (wr.rowIs w1.heap.size 25 p V) := hrG
      have HG0 : Hid (0 < k → ∃ g, V 0 = .slice (some ⟨g, 0, none⟩) r r ∧ w.heap.size ≤ g ∧ g ≠ w1.heap.size ∧ g < wr.heap.size ∧ wr.cell? ⟨g, 0, none⟩ = some (.int .i32 (Br s))) := hg0
      have HM0 : Hid (k = 0 → m = s) := hm0
      clear hkeep hpl hLb hrG hg0 hm0
      have hmc : (madeCells #[Value.int IntKind.i32 0] r)[0]? = some (.int .i32 0) := made_zero (by omega)
      go_wp2_with fail
      clear hmc hmk2 cb
      obtain ⟨wo, hwo⟩ : ∃ wo : World, wo = wr := ⟨_, rfl⟩
      subst hwo
      go_loopg [49] r (fun g j wi => ∃ (t : Nat) (X : Nat → Int), g = r - t ∧ t + 1 ≤ r ∧ j = .int .i64 t ∧ X 0 = Br m ∧ Below wo.heap.size wo wi ∧ wi.rowIs wo.heap.size 21 r (fun i => .int .i32 (X i)))
      case atStart => exact ⟨0, _, rfl, by omega, rfl, rfl, (Below.refl _ _).alloc (Nat.le_refl _) _, made_first wo _ (by omega)⟩
      case round =>
        obtain ⟨t, X, rfl, ht, rfl, hX0, hbi, hri⟩ := hrel
        obtain ⟨wi, hwi⟩ : ∃ wi : World, wi = wr := ⟨_, rfl⟩
        subst hwi
        by_cases hti : t + 1 < r
        · have q0' : wi.cell? ⟨P, 0, none⟩ = some (.slice (some ⟨bB, 0, none⟩) n n) := (hbi.cell lP).trans q0
          have q1' : wi.cell? ⟨P, 1, none⟩ = some (.slice (some ⟨bL, 0, none⟩) n n) := (hbi.cell lP).trans q1
          have cL : wi.cell? ⟨bL, m, none⟩ = some (.int .i64 (L' m)) := (hbi.cell lL).trans (HPL.out.l.cell hmn)
          obtain ⟨hL0, hL1⟩ : 0 ≤ L' m ∧ L' m ≤ 2000065536 := by have := HLB.out m; have := HL.out m; omega
          obtain ⟨m1, hA, hA', hm1⟩ : ∃ m1 : Nat, (L' m + (t : Int)).tmod ((n : Int) - 1) = m1 ∧ (L' m + (t : Int)) % ((n : Int) - 1) = m1 ∧ m1 < n := idx_two (by omega) (by omega) (by omega)
          obtain ⟨m2, hC, hC', hm2⟩ : ∃ m2 : Nat, ((m : Int) + 1 + m1).tmod (n : Int) = m2 ∧ ((m : Int) + 1 + m1) % (n : Int) = m2 ∧ m2 < n := idx_two (by omega) (by omega) (by omega)
          have cB : wi.cell? ⟨bB, m2, none⟩ = some (.int .i32 (Br m2)) := (hbi.cell lB).trans (HPL.out.b.cell hm2)
          have cN : wi.cell? ⟨wo.heap.size, t + 1, none⟩ = some (.int .i32 (X (t + 1))) := hri.cell (by omega)
          have fN : wi.frozen? ⟨wo.heap.size, t + 1, none⟩ = false := hri.frozen (t + 1)
          have HBI : Hid (Below wo.heap.size wo wi) := hbi
          have HRI : Hid (wi.rowIs wo.heap.size 21 r (fun i => .int .i32 (X i))) := hri
          have HX0 : Hid (X 0 = Br m) := hX0
          clear hbi hri hX0 q0 q1
          go_wp2_with fail
          go_region
          go_wp2
          go_roundg (r - (t + 1))
          case measure => omega
          case rel => exact ⟨t + 1, fun i => if i = t + 1 then Br m2 else X i, rfl, by omega, by go_num, by simpa using HX0.out, (HBI.out.setCell (by simp) _).drew, (HRI.out.set (t + 1) _).congr fun j hj => by by_cases e : j = t + 1 <;> simp [e]⟩
        · have q1' : wi.cell? ⟨P, 1, none⟩ = some (.slice (some ⟨bL, 0, none⟩) n n) := (hbi.cell lP).trans q1
          have cL : wi.cell? ⟨bL, m, none⟩ = some (.int .i64 (L' m)) := (hbi.cell lL).trans (HPL.out.l.cell hmn)
          have fL : wi.frozen? ⟨bL, m, none⟩ = false := (hbi.frozen lL).trans (HPL.out.l.frozen m)
          have lG : w1.heap.size < wo.heap.size := HRG.out.lt
          have cG : wi.cell? ⟨w1.heap.size, k, none⟩ = some (V k) := (hbi.cell lG).trans (HRG.out.cell hlt)
          have fG : wi.frozen? ⟨w1.heap.size, k, none⟩ = false := (hbi.frozen lG).trans (HRG.out.frozen k)
          obtain ⟨hL0, hL1⟩ : 0 ≤ L' m ∧ L' m ≤ 2000065536 := by have := HLB.out m; have := HL.out m; omega
          have HBI : Hid (Below wo.heap.size wo wi) := hbi
          have HRI : Hid (wi.rowIs wo.heap.size 21 r (fun i => .int .i32 (X i))) := hri
          have HX0 : Hid (X 0 = Br m) := hX0
          have lbG : bL < w1.heap.size := by have := HP.out.l.lt; have := HB1.out.size; omega
          have cG' : (wi.setCell ⟨bL, m, none⟩ (.int .i64 (L' m + 1))).cell? ⟨w1.heap.size, k, none⟩ = some (V k) := by
            rw [World.cell?_of_block (w := wi) (Below.heap_setCell wi ⟨bL, m, none⟩ _ w1.heap.size (by show w1.heap.size ≠ bL; omega))]; exact cG
          clear hbi hri hX0 q0 q1 cG
          go_wp2
          go_roundg (p - (k + 1))
          case measure => omega
          case rel =>
            exact ⟨k + 1, rfl, by omega, by go_num, outer_step HO.out HPL.out HLB.out HRG.out HG0.out HM0.out HBI.out HRI.out HX0.out HB1.out.size ha HP.out.p.lt HP.out.b.lt HP.out.l.lt HP.out.f.lt hlt hr1⟩
    · obtain rfl : k = p := by omega
      obtain ⟨hkeep, V, L', hpl, hLb, hrG, hg0⟩ := hO
      have q2 : wr.cell? ⟨P, 2, none⟩ = some (.slice (some ⟨bF, 0, none⟩) n n) := hpl.p.cell (i := 2) (by decide)
      have cF : wr.cell? ⟨bF, s, none⟩ = some (.int .i64 (F s)) := hpl.f.cell hs
      have fF : wr.frozen? ⟨bF, s, none⟩ = false := hpl.f.frozen s
      have f3 : wr.frozen? ⟨P, 3, none⟩ = false := hpl.p.frozen 3
      have f4 : wr.frozen? ⟨P, 4, none⟩ = false := hpl.p.frozen 4
      have c3 : (wr.setCell ⟨bF, s, none⟩ (.int .i64 (wrap64 (F s + 1)))).cell? ⟨P, 3, none⟩ = some (.int .i64 last) := by
        rw [cell_set_other ha.pf]; exact hpl.p.cell (i := 3) (by decide)
      have c4 : (wr.setCell ⟨bF, s, none⟩ (.int .i64 (wrap64 (F s + 1)))).cell? ⟨P, 4, none⟩ = some (.int .i64 next) := by
        rw [cell_set_other ha.pf]; exact hpl.p.cell (i := 4) (by decide)
      obtain ⟨g, hg1, hg2, hg3, hg4, hg5⟩ := hg0 (by omega)
      have HO : Hid (Keeps (fun b => b = P ∨ b = bL ∨ b = bF) w.heap.size w wr) := hkeep
      have HPL : Hid (Placer wr P bB bL bF n last next Br L' F) := hpl
      have HLB : Hid (∀ i, 0 ≤ L' i ∧ L' i ≤ L i + k) := hLb
      have HRG : Hid (wr.rowIs w1.heap.size 25 k V) := hrG
      have HG : Hid (V 0 = .slice (some ⟨g, 0, none⟩) r r ∧ w.heap.size ≤ g ∧ g ≠ w1.heap.size ∧ g < wr.heap.size ∧ wr.cell? ⟨g, 0, none⟩ = some (.int .i32 (Br s))) := ⟨hg1, hg2, hg3, hg4, hg5⟩
      clear hkeep hpl hLb hrG hg1 hg2 hg3 hg4 hg5 hg0
      go_wp2
      go_ret
      exact ⟨s, w1.heap.size, g, _, L', _, hs, HS.out, rfl, repl_end HO.out HPL.out HLB.out HRG.out HG.out HB1.out.size ha HP.out.p.lt HP.out.l.lt HP.out.f.lt hp1 hpm⟩
end Go.Proofs.Qxb6602780aMods
