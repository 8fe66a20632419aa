/- Rows of attributes that a call builds, one block a row. -/
import Derived.Test.Qxb6602809aModsBase
namespace Go.Proofs.Qxb6602809aMods
open Go.ChangeShapes Go.WideShapes Go.ChangeAt Go.RowKit
set_option linter.unusedVariables false

theorem cell_set_other {w : World} {a : Addr} {u : Value} {b o : Nat} (h : b ≠ a.block) : (w.setCell a u).cell? ⟨b, o, none⟩ = w.cell? ⟨b, o, none⟩ :=
  World.cell?_of_block (w := w) (Below.heap_setCell w a u b h)

theorem RowAt.setOther {w : World} {ra : Option Addr} {m : Nat} {T : Nat → ByteArray} (h : RowAt w ra m T) {p : Addr} (u : Value) (hne : ∀ b o, ra = some ⟨b, o, none⟩ → b ≠ p.block) : RowAt (w.setCell p u) ra m T := fun h0 => by
  obtain ⟨b, off, e, h1⟩ := h h0
  have hb := hne b off e
  refine ⟨b, off, e, fun j hj => ?_⟩
  obtain ⟨a0, v, x, c, a1, a2, a3⟩ := h1 j hj
  exact ⟨by rw [cell_set_other hb]; exact a0, v, x, c, by rw [cell_set_other hb]; exact a1, by rw [cell_set_other hb]; exact a2, by rw [cell_set_other hb]; exact a3⟩

/-- The first t attributes of a row that is being built. -/
def Done (X : Nat → Value) (T : Nat → ByteArray) (t : Nat) : Prop := ∀ q, q < t → X (q * 4) = .string (T q) ∧ ∃ (v x : ByteArray) (c : Bool), X (q * 4 + 1) = .string v ∧ X (q * 4 + 2) = .string x ∧ X (q * 4 + 3) = .bool c

theorem done_step {X : Nat → Value} {T : Nat → ByteArray} {t : Nat} (h : Done X T t) (v x : ByteArray) (c : Bool) :
    Done (fun j => if j = t * 4 + 3 then .bool c else if j = t * 4 + 2 then .string x else if j = t * 4 + 1 then .string v else if j = t * 4 then .string (T t) else X j) T (t + 1) := by
  intro q hq
  by_cases e : q = t
  · subst e
    refine ⟨?_, v, x, c, ?_, ?_, ?_⟩
    · simp
    · simp
    · simp
    · simp
  · obtain ⟨h0, v', x', c', h1, h2, h3⟩ := h q (by omega)
    refine ⟨?_, v', x', c', ?_, ?_, ?_⟩
    · dsimp only; rw [if_neg (by omega), if_neg (by omega), if_neg (by omega), if_neg (by omega)]; exact h0
    · dsimp only; rw [if_neg (by omega), if_neg (by omega), if_neg (by omega), if_neg (by omega)]; exact h1
    · dsimp only; rw [if_neg (by omega), if_neg (by omega), if_neg (by omega), if_neg (by omega)]; exact h2
    · dsimp only; rw [if_neg (by omega), if_neg (by omega), if_neg (by omega), if_neg (by omega)]; exact h3

theorem done_row {w : World} {b : Nat} {te : TypeId} {M : Nat} {X : Nat → Value} {T : Nat → ByteArray} (hr : w.rowIs b te (M * 4) X) (hd : Done X T M) : RowAt w (some ⟨b, 0, none⟩) M T := fun h0 => by
  refine ⟨b, 0, rfl, fun j hj => ?_⟩
  obtain ⟨h0, v, x, c, h1, h2, h3⟩ := hd j hj
  refine ⟨?_, v, x, c, ?_, ?_, ?_⟩
  · rw [Nat.zero_add, hr.cell (by omega), h0]
  · rw [Nat.zero_add, hr.cell (by omega), h1]
  · rw [Nat.zero_add, hr.cell (by omega), h2]
  · rw [Nat.zero_add, hr.cell (by omega), h3]

/-- A slice of rows that is being built in block G: k rows are laid, the rest are nil. -/
structure Built (G n : Nat) (ts : TypeId) (m : Nat → Nat) (T : Nat → Nat → ByteArray) (w wr : World) (k : Nat) : Prop where
  below : Below w.heap.size w wr
  rows : ∃ V : Nat → Value, wr.rowIs G ts n V ∧ (∀ i, i < k → ∃ ra rc, V i = .slice ra (m i) rc ∧ RowAt wr ra (m i) (T i) ∧ ∀ b o, ra = some ⟨b, o, none⟩ → b ≠ G) ∧ ∀ i, k ≤ i → i < n → V i = .slice none 0 0

variable {G n : Nat} {ts : TypeId} {m : Nat → Nat} {T : Nat → Nat → ByteArray} {w wr wo wi : World} {k : Nat}

theorem Built.start (w : World) : Built w.heap.size n ts m T w (w.alloc (.cells (madeCells #[.slice none 0 0] n) ts)) 0 :=
  ⟨(Below.refl _ _).alloc (Nat.le_refl _) _, _, World.rowIs_made w (.slice none 0 0) n ts, fun i h => by omega, fun i _ _ => rfl⟩

theorem Built.skip (h : Built G n ts m T w wr k) (hk : k < n) (hm : m k = 0) : Built G n ts m T w wr (k + 1) := by
  obtain ⟨hb, V, hr, h1, h2⟩ := h
  refine ⟨hb, V, hr, fun i hi => ?_, fun i hi => h2 i (by omega)⟩
  by_cases e : i = k
  · subst e
    exact ⟨none, 0, by rw [h2 i (Nat.le_refl _) hk, hm], fun h0 => absurd hm h0, fun b o e => by cases e⟩
  · exact h1 i (by omega)

theorem Built.put {te : TypeId} {X : Nat → Value} {M : Nat} (h : Built G n ts m T w wo k) (hk : k < n) (hM : M = m k) (hG : w.heap.size ≤ G) (hbi : Below wo.heap.size wo wi) (hr : wi.rowIs wo.heap.size te (M * 4) X) (hd : Done X (T k) M) :
    Built G n ts m T w (wi.setCell ⟨G, k, none⟩ (.slice (some ⟨wo.heap.size, 0, none⟩) M M)) (k + 1) := by
  obtain ⟨hb, V, hrV, h1, h2⟩ := h
  have hGo : G < wo.heap.size := hrV.lt
  have hrV' : wi.rowIs G ts n V := hrV.of_block (hbi.block G hGo)
  refine ⟨(hb.trans (hbi.mono hb.size)).setCell hG _, _, hrV'.set k _, fun i hi => ?_, fun i hi hn => ?_⟩
  · by_cases e : i = k
    · subst e
      refine ⟨some ⟨wo.heap.size, 0, none⟩, M, by simp [hM], ?_, fun b o e => by simp at e; omega⟩
      rw [← hM]
      exact (done_row hr hd).setOther _ (fun b o e => by simp at e; show b ≠ G; omega)
    · obtain ⟨ra, rc, e1, e2, e3⟩ := h1 i (by omega)
      exact ⟨ra, rc, by simp [e, e1], (e2.below hbi).setOther _ e3, e3⟩
  · rw [if_neg (by omega)]; exact h2 i (by omega) hn

theorem Built.done (h : Built G n ts m T w wr n) : Subj wr (some ⟨G, 0, none⟩) n m T := fun h0 => by
  obtain ⟨hb, V, hr, h1, h2⟩ := h
  refine ⟨G, 0, rfl, fun i hi => ?_⟩
  obtain ⟨ra, rc, e1, e2, _⟩ := h1 i hi
  exact ⟨ra, rc, by rw [Nat.zero_add, hr.cell hi, e1], e2⟩

/-- A subject handed back. -/
structure SubjOut (e : Ending) (n : Nat) (m : Nat → Nat) (T : Nat → Nat → ByteArray) (w : World) : Prop where
  out : ∃ a c, e = .returned (.slice a n c) ∧ Subj w a n m T ∧ (a = none → n = 0 ∧ c = 0)
end Go.Proofs.Qxb6602809aMods
