/- ZZPlainLine. -/
import Derived.Test.Qxb6601229aModsPlL
namespace Go.Proofs.Qxb6601229aMods
open Go.ChangeShapes Go.WideShapes Go.ChangeAt Go.RowKit
set_option linter.unusedVariables false

set_option maxHeartbeats 1000000 in
set_option maxRecDepth 20000 in
theorem pline_end (P n : Nat) (ao : Option Addr) (V : Nat → Value) (flow : Bool) (w : World) (hR : w.rowIs P 41 11 (fun i => if i = 2 then .int .i64 n else V i)) (hV : V 1 = .slice ao n n) (hn : n ≤ 2000000) :
    Calls Trym.prog 23 #[.pointer (some ⟨P, 0, none⟩), .bool flow] w fun r w' => r = .returned (.string (strOfNums [])) ∧ w'.cell? ⟨P, 2, none⟩ = some (.int .i64 n) ∧ Below P w w' := by
  have hP1 : w.cell? ⟨P, 1, none⟩ = some (.slice ao n n) := by have := hR.cell (i := 1) (by decide); simpa [hV] using this
  have hP2 : w.cell? ⟨P, 2, none⟩ = some (.int .i64 n) := hR.cell (i := 2) (by decide)
  have hfr : w.frozen? ⟨P, 2, none⟩ = false := hR.frozen 2
  have hcv := fun nq => conv_empty ao 0 ((w.drewN nq).setCell ⟨P, 2, none⟩ (.int .i64 n))
  have hend : Hid (∀ nq, ((w.drewN nq).setCell ⟨P, 2, none⟩ (.int .i64 n)).cell? ⟨P, 2, none⟩ = some (.int .i64 n) ∧ Below P w ((w.drewN nq).setCell ⟨P, 2, none⟩ (.int .i64 n))) := by
    intro nq
    refine ⟨?_, (below_drewN (Below.refl P w) nq).setCell (by simp) _⟩
    have := ((show (w.drewN nq).rowIs P 41 11 _ from hR).set 2 (.int .i64 n)).cell (i := 2) (by decide)
    simpa using this
  have hat : Hid (atF (fun _ => 0) n n = 0) := by show atF (fun _ => 0) n n = 0; simp [atF]
  clear hR hV
  go_enter Trym.func23, Trym.ntmps23
  go_wp2
  go_quiet (fail)
  go_wp2
  refine wp_loop_rounds 1 ?_
  rw [rounds_succ]
  go_wp2_with fail
  refine (at_any P 0 n n n ao (fun _ => 0) _ (by exact hP1) (fun h => by omega) hn).mono ?_
  rintro r w' ⟨rfl, hw'⟩
  obtain rfl := hw'.symm
  rw [hat.out]
  go_wp2
  go_ret
  exact ⟨rfl, (hend.out _).1, (hend.out _).2⟩

/-- plainLine, from whatever place inside. -/
theorem pline_any (P n start q e : Nat) (ao : Option Addr) (f : Nat → Int) (V : Nat → Value) (flow : Bool) (w : World) (hB : Bytes w ao n f) (hbP : n ≠ 0 → ∀ b, ao = some ⟨b, 0, none⟩ → b < P) (hR : w.rowIs P 41 11 (fun i => if i = 2 then .int .i64 start else V i)) (hV : V 1 = .slice ao n n)
    (hn : n ≤ 2000000) (h35 : start = 0 → 0 < n → ¬ f 0 = 35) (hE : IsEnd f n start flow q e) :
    Calls Trym.prog 23 #[.pointer (some ⟨P, 0, none⟩), .bool flow] w fun r w' => r = .returned (.string (txt f start e)) ∧ w'.cell? ⟨P, 2, none⟩ = some (.int .i64 e) ∧ Below P w w' := by
  by_cases hs : start < n
  · rcases hB with ⟨rfl | ⟨b, rfl, hc⟩, hf⟩
    · omega
    · exact pline_row P b n start q e f V flow w hc (hbP (by omega) b rfl) hR hV hn hs (fun h => h35 h (by omega)) hE
  · have h1 : start = n := by have := hE.1; have := hE.2.1; have := hE.2.2.1; omega
    have h2 : e = n := by have := hE.1; have := hE.2.1; have := hE.2.2.1; omega
    subst h1 h2
    refine (pline_end P _ ao V flow w hR hV hn).mono ?_
    rintro r w' ⟨rfl, h, hb⟩
    exact ⟨by simp [txt], h, hb⟩

/-- ZZPlainLine. -/
theorem zzpl_any (n start q e : Nat) (ao : Option Addr) (f : Nat → Int) (flow : Bool) (w : World) (hB : Bytes w ao n f) (hbP : n ≠ 0 → ∀ b, ao = some ⟨b, 0, none⟩ → b < w.heap.size)
    (hn : n ≤ 2000000) (h35 : start = 0 → 0 < n → ¬ f 0 = 35) (hE : IsEnd f n start flow q e) :
    Calls Trym.prog 15 #[.slice ao n n, .int .i64 start, .bool flow] w fun r w' => r = .returned (.tuple #[.string (txt f start e), .int .i64 e]) ∧ Below w.heap.size w w' := by
  obtain ⟨W, hW⟩ : ∃ W, W = w.alloc (.cells #[.string { data := #[] }, .slice ao n n, .int .i64 start, .int .i64 0, .int .i64 0, .int .i64 0, .int .i64 0, .map none, .map none, .int .i64 0, .slice none 0 0] 41) := ⟨_, rfl⟩
  have hBe : Below w.heap.size w W := by rw [hW]; exact (Below.refl _ _).alloc (Nat.le_refl _) _
  have hR : W.rowIs w.heap.size 41 11 (fun i => if i = 2 then .int .i64 start else (#[Value.string { data := #[] }, .slice ao n n, .int .i64 start, .int .i64 0, .int .i64 0, .int .i64 0, .int .i64 0, .map none, .map none, .int .i64 0, .slice none 0 0] : Array Value).getD i undef) := by
    rw [hW]
    refine World.rowIs_alloc w _ 41 _ (fun i hi => ?_)
    simp at hi
    have : i = 0 ∨ i = 1 ∨ i = 2 ∨ i = 3 ∨ i = 4 ∨ i = 5 ∨ i = 6 ∨ i = 7 ∨ i = 8 ∨ i = 9 ∨ i = 10 := by omega
    rcases this with rfl | rfl | rfl | rfl | rfl | rfl | rfl | rfl | rfl | rfl | rfl <;> rfl
  have hB' : Bytes W ao n f := by
    refine ⟨?_, hB.2⟩
    rcases hB.1 with h | ⟨b, h, hc⟩
    · exact .inl h
    · by_cases h0 : n = 0
      · exact .inl h0
      · exact .inr ⟨b, h, fun i hi => (hBe.cell (hbP h0 b h)).trans (hc i hi)⟩
  have HB : Hid _ := hB'
  have HP : Hid _ := hbP
  have HR : Hid _ := hR
  have HE : Hid _ := hE
  have H35 : Hid _ := h35
  have HW : Hid _ := hW
  clear hB hB' hbP hR hE h35 hW
  go_enter Trym.func15, Trym.ntmps15
  go_wp2_with fail
  rw [← HW.out]
  refine (pline_any w.heap.size n start q e ao f _ flow W HB.out HP.out HR.out rfl hn H35.out HE.out).mono ?_
  rintro r w1 ⟨rfl, hpos, hb⟩
  go_wp2
  go_quiet (fail)
  go_wp2
  go_ret2
  exact ⟨rfl, below_drewN (hBe.trans hb) _⟩
end Go.Proofs.Qxb6601229aMods
