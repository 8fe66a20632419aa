/- Reasons and metadata keys, in plain words. -/
import Derived.WalkKit
namespace Go.Proofs.Qxb6602025aMods
open Go.RowKit

/-- The byte at i of a string, as a number. -/
def byt (s : ByteArray) (i : Nat) : Int := ((s.data.toList.getD i 0).toNat : Int)

theorem byt_eq (s : ByteArray) (k : Nat) (h : k < s.size) : ((s[k]'h).toNat : Int) = byt s k := by
  unfold byt
  have h' : k < s.data.toList.length := by simpa using h
  rw [List.getD, List.getElem?_eq_getElem h']
  rfl

theorem byt_bd (s : ByteArray) (k : Nat) : 0 ≤ byt s k ∧ byt s k ≤ 255 := by
  unfold byt
  have := (s.data.toList.getD k 0).toNat_lt
  omega

def upB (c : Int) : Bool := decide (65 ≤ c) && decide (c ≤ 90)
def digB (c : Int) : Bool := decide (48 ≤ c) && decide (c ≤ 57)
/-- One byte of a reason of n bytes, at place i. -/
def okR (f : Nat → Int) (n i : Nat) : Bool := upB (f i) || (digB (f i) && decide (0 < i)) || ((f i == 95) && decide (0 < i) && decide (i + 1 < n))
/-- A reason. -/
def Reason (f : Nat → Int) (n : Nat) : Prop := 3 ≤ n ∧ n ≤ 63 ∧ ∀ i, i < n → okR f n i = true

/-- The automaton. -/
def stepA (s c : Int) : Int :=
  if s = 0 then (if upB c then 1 else 4) else if s = 4 then 4 else if upB c || digB c then 3 else if c = 95 then 2 else 4
def stF (f : Nat → Int) : Nat → Int
  | 0 => 0
  | k + 1 => stepA (stF f k) (f k)

def good (f : Nat → Int) (k : Nat) : Prop := upB (f 0) = true ∧ ∀ i, 0 < i → i < k → upB (f i) = true ∨ digB (f i) = true ∨ f i = 95

theorem st_spec (f : Nat → Int) (k : Nat) : (good f (k + 1) → stF f (k + 1) = if k = 0 then 1 else if upB (f k) || digB (f k) then 3 else 2) ∧ (¬ good f (k + 1) → stF f (k + 1) = 4) := by
  induction k with
  | zero =>
    refine ⟨fun h => ?_, fun h => ?_⟩
    · simp [stF, stepA, h.1]
    · have : upB (f 0) = false := by
        cases hu : upB (f 0) with
        | false => rfl
        | true => exact absurd ⟨hu, fun i h1 h2 => by omega⟩ h
      simp [stF, stepA, this]
  | succ k ih =>
    refine ⟨fun h => ?_, fun h => ?_⟩
    · have hg : good f (k + 1) := ⟨h.1, fun i h1 h2 => h.2 i h1 (by omega)⟩
      have e := ih.1 hg
      have hc := h.2 (k + 1) (by omega) (by omega)
      rw [stF, e]
      unfold stepA
      rw [if_neg (by split <;> (try split) <;> decide), if_neg (by split <;> (try split) <;> decide)]
      by_cases hu : (upB (f (k + 1)) || digB (f (k + 1))) = true
      · simp [hu]
      · have h95 : f (k + 1) = 95 := by simp at hu; rcases hc with h | h | h <;> simp_all
        simp [h95]
    · by_cases hg : good f (k + 1)
      · have e := ih.1 hg
        have hbad : ¬ (upB (f (k + 1)) = true ∨ digB (f (k + 1)) = true ∨ f (k + 1) = 95) := fun hh => h ⟨hg.1, fun i h1 h2 => by
          by_cases ei : i = k + 1
          · subst ei; exact hh
          · exact hg.2 i h1 (by omega)⟩
        have n1 : (upB (f (k + 1)) || digB (f (k + 1))) = false := by
          cases h1 : upB (f (k + 1)) <;> cases h2 : digB (f (k + 1)) <;> simp_all
        have n2 : ¬ f (k + 1) = 95 := fun h => hbad (.inr (.inr h))
        rw [stF, e]
        unfold stepA
        rw [if_neg (by split <;> (try split) <;> decide), if_neg (by split <;> (try split) <;> decide)]
        simp [n1, n2]
      · rw [stF, ih.2 hg]
        simp [stepA]

theorem up_not95 {c : Int} (h : upB c = true) : ¬ c = 95 := by simp [upB] at h; omega
theorem dig_not95 {c : Int} (h : digB c = true) : ¬ c = 95 := by simp [digB] at h; omega

/-- THE LAW: the automaton accepts, at a length from 3 to 63, just the reasons. -/
theorem auto_law (f : Nat → Int) (n : Nat) : (stF f n = 3 ∧ 3 ≤ n ∧ n ≤ 63) ↔ Reason f n := by
  constructor
  · rintro ⟨h, h3, h63⟩
    obtain ⟨k, rfl⟩ : ∃ k, n = k + 1 := ⟨n - 1, by omega⟩
    have sp := st_spec f k
    by_cases hg : good f (k + 1)
    · have e := sp.1 hg
      rw [h, if_neg (by omega)] at e
      refine ⟨h3, h63, fun i hi => ?_⟩
      unfold okR
      by_cases i0 : i = 0
      · subst i0; simp [hg.1]
      · by_cases ik : i = k
        · subst ik
          by_cases hu : (upB (f i) || digB (f i)) = true
          · simp at hu
            rcases hu with hu | hu
            · simp [hu]
            · simp [hu]; omega
          · rw [if_neg hu] at e; simp at e
        · rcases hg.2 i (by omega) hi with h | h | h
          · simp [h]
          · simp [h]; omega
          · simp [h]; omega
    · rw [sp.2 hg] at h; simp at h
  · rintro ⟨h3, h63, hok⟩
    obtain ⟨k, rfl⟩ : ∃ k, n = k + 1 := ⟨n - 1, by omega⟩
    refine ⟨?_, h3, h63⟩
    have h0 := hok 0 (by omega)
    simp [okR] at h0
    have hg : good f (k + 1) := ⟨h0, fun i h1 h2 => by
      have := hok i h2
      simp [okR] at this
      rcases this with (h | h) | h
      · exact .inl h
      · exact .inr (.inl h.1)
      · exact .inr (.inr h.1.1)⟩
    rw [(st_spec f k).1 hg, if_neg (by omega)]
    have hl := hok k (by omega)
    simp [okR] at hl
    rw [if_pos]
    rcases hl with h | h
    · simp [h]
    · simp [h.1]
end Go.Proofs.Qxb6602025aMods
