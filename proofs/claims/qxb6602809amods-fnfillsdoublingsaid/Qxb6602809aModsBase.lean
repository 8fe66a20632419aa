/- Slices of strings and of rows of attributes, as the walks read them; the sizes; the law's bound on lengths. -/
import Derived.Test.Qxb6602809aModsRows
import Derived.WalkKit
import Derived.WalkSpells
import Derived.WalkLawsBesides
import Derived.ProofKit
import Derived.Deep.OwnRows
import Derived.Deep.LoopGhost
import Derived.OpenShut
namespace Go.Proofs.Qxb6602809aMods
open Go.ChangeShapes Go.WideShapes Go.ChangeAt Go.RowKit
set_option linter.unusedVariables false

theorem retB {a b : Bool} (h : a = b) : Ending.returned (.bool a) = .returned (.bool b) := by rw [h]

/-- A slice of n strings that can be read. -/
def Strs (w : World) (a : Option Addr) (n : Nat) : Prop := n ≠ 0 → ∃ b off, a = some ⟨b, off, none⟩ ∧ ∀ i, i < n → ∃ s, w.cell? ⟨b, off + i, none⟩ = some (.string s)

/-- An attribute at an address: its type's text t, two strings more and a bool. -/
def Attr (w : World) (b o : Nat) (t : ByteArray) : Prop := w.cell? ⟨b, o, none⟩ = some (.string t) ∧ ∃ (v x : ByteArray) (c : Bool), w.cell? ⟨b, o + 1, none⟩ = some (.string v) ∧ w.cell? ⟨b, o + 2, none⟩ = some (.string x) ∧ w.cell? ⟨b, o + 3, none⟩ = some (.bool c)

/-- A row of m attributes. -/
def RowAt (w : World) (a : Option Addr) (m : Nat) (T : Nat → ByteArray) : Prop := m ≠ 0 → ∃ b off, a = some ⟨b, off, none⟩ ∧ ∀ j, j < m → Attr w b (off + j * 4) (T j)

/-- A subject: n rows, row i of m i attributes. -/
def Subj (w : World) (a : Option Addr) (n : Nat) (m : Nat → Nat) (T : Nat → Nat → ByteArray) : Prop :=
  n ≠ 0 → ∃ b off, a = some ⟨b, off, none⟩ ∧ ∀ i, i < n → ∃ ra rc, w.cell? ⟨b, off + i, none⟩ = some (.slice ra (m i) rc) ∧ RowAt w ra (m i) (T i)

theorem Attr.below {w w' : World} {b o : Nat} {t : ByteArray} (h : Attr w b o t) (hb : Below w.heap.size w w') : Attr w' b o t := by
  obtain ⟨h0, v, x, c, h1, h2, h3⟩ := h
  have l := World.block_lt_of_cell? _ _ h0
  exact ⟨(hb.cell l).trans h0, v, x, c, (hb.cell (p := ⟨b, o + 1, none⟩) l).trans h1, (hb.cell (p := ⟨b, o + 2, none⟩) l).trans h2, (hb.cell (p := ⟨b, o + 3, none⟩) l).trans h3⟩
theorem RowAt.below {w w' : World} {a : Option Addr} {m : Nat} {T : Nat → ByteArray} (h : RowAt w a m T) (hb : Below w.heap.size w w') : RowAt w' a m T := fun h0 => by
  obtain ⟨b, off, e, h1⟩ := h h0
  exact ⟨b, off, e, fun j hj => (h1 j hj).below hb⟩
theorem Subj.below {w w' : World} {a : Option Addr} {n : Nat} {m : Nat → Nat} {T : Nat → Nat → ByteArray} (h : Subj w a n m T) (hb : Below w.heap.size w w') : Subj w' a n m T := fun h0 => by
  obtain ⟨b, off, e, h1⟩ := h h0
  refine ⟨b, off, e, fun i hi => ?_⟩
  obtain ⟨ra, rc, hc, hr⟩ := h1 i hi
  exact ⟨ra, rc, (hb.cell (World.block_lt_of_cell? _ _ hc)).trans hc, hr.below hb⟩
theorem Strs.below {w w' : World} {a : Option Addr} {n : Nat} (h : Strs w a n) (hb : Below w.heap.size w w') : Strs w' a n := fun h0 => by
  obtain ⟨b, off, e, h1⟩ := h h0
  refine ⟨b, off, e, fun i hi => ?_⟩
  obtain ⟨s, hc⟩ := h1 i hi
  exact ⟨s, (hb.cell (World.block_lt_of_cell? _ _ hc)).trans hc⟩

set_option maxHeartbeats 800000 in
theorem psize_any (a : Option Addr) (n c : Nat) (w : World) (h : Strs w a n) (hn : n ≤ 1048576) : Calls Trym.prog 25 #[.slice a n c] w fun e w' => (∃ z, e = .returned (.int .i64 z)) ∧ w' = w := by
  have H : Hid (Strs w a n) := h
  clear h
  go_enter Trym.func25, Trym.ntmps25
  go_wp2
  go_loop [3, 4] (fun x i => ∃ (k : Nat) (z : Int), k ≤ n ∧ i = .int .i64 k ∧ x = .int .i64 z) (fun _ i => n - (intOf i).toNat)
  case atStart => exact ⟨0, _, Nat.zero_le _, rfl, rfl⟩
  case round =>
    obtain ⟨k, z, hk, rfl, rfl⟩ := hrel
    by_cases hlt : k < n
    · obtain ⟨b, off, ea, hc⟩ := H.out (by omega)
      subst ea
      obtain ⟨s, hs⟩ := hc k hlt
      clear hc
      go_wp2
      all_goals first
        | (go_round
           case rel => exact ⟨k + 1, _, by omega, by go_num, rfl⟩
           case measure => simp [intOf]; omega)
        | (go_ret
           exact ⟨⟨_, rfl⟩, rfl⟩)
    · go_wp2
      go_ret
      exact ⟨⟨_, rfl⟩, rfl⟩
end Go.Proofs.Qxb6602809aMods
