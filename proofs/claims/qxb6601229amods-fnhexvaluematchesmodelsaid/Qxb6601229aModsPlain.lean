/- The plain mathematics of hexadecimal digits: nothing of the program. -/
import Derived.WalkKit
namespace Go.Proofs.Qxb6601229aMods
open Go.RowKit

/-- The value of a hexadecimal digit, or -1. -/
def hexD (c : Int) : Int := if 48 ≤ c ∧ c ≤ 57 then c - 48 else if 97 ≤ c ∧ c ≤ 102 then c - 87 else if 65 ≤ c ∧ c ≤ 70 then c - 55 else -1

theorem hexD_le (c : Int) : -1 ≤ hexD c ∧ hexD c ≤ 15 := by unfold hexD; split <;> (try split) <;> (try split) <;> omega

/-- The number that the first k digits write, in 32 bits with a sign. -/
def valF (f : Nat → Int) : Nat → Int
  | 0 => 0
  | k + 1 => wrap32 (16 * valF f k + hexD (f k))

/-- The same number, unbounded. -/
def numF (f : Nat → Int) : Nat → Int
  | 0 => 0
  | k + 1 => 16 * numF f k + hexD (f k)

/-- The first k are digits, and behind them comes none. -/
def IsLead (f : Nat → Int) (n k : Nat) : Prop := k ≤ n ∧ (∀ j, j < k → 0 ≤ hexD (f j)) ∧ (k < n → hexD (f k) < 0)

theorem lead_exists (f : Nat → Int) (n : Nat) : ∃ k, IsLead f n k := by
  induction n with
  | zero => exact ⟨0, Nat.le_refl _, fun j h => by omega, fun h => by omega⟩
  | succ n ih =>
    obtain ⟨k, h1, h2, h3⟩ := ih
    by_cases hk : k < n
    · exact ⟨k, by omega, h2, fun _ => h3 hk⟩
    · have hkn : k = n := by omega
      subst hkn
      by_cases hd : 0 ≤ hexD (f k)
      · exact ⟨k + 1, Nat.le_refl _, fun j hj => by
          by_cases e : j < k
          · exact h2 j e
          · have : j = k := by omega
            subst this; exact hd, fun h => by omega⟩
      · exact ⟨k, by omega, h2, fun _ => by omega⟩

theorem wrap32_def (x : Int) : wrap32 x = (x + 2147483648) % 4294967296 - 2147483648 := by
  unfold wrap32; omega

theorem valF_num (f : Nat → Int) (k : Nat) : valF f k = wrap32 (numF f k) := by
  induction k with
  | zero => simp [valF, numF, wrap32]
  | succ k ih => simp only [valF, numF, ih]; unfold wrap32; omega

theorem valF_bd (f : Nat → Int) (k : Nat) : -2147483648 ≤ valF f k ∧ valF f k ≤ 2147483647 := by
  rw [valF_num]; unfold wrap32; omega

/-! ### The model's way: the last m digits weighed from the right -/

/-- The digits from place p to p + m - 1, weighed from the right. -/
def sumF (f : Nat → Int) (c : Nat) : Nat → Int
  | 0 => 0
  | m + 1 => sumF f c m + hexD (f (c - 1 - m)) * 16 ^ m

theorem numF_split (f : Nat → Int) (c m : Nat) (h : m ≤ c) : numF f c = numF f (c - m) * 16 ^ m + sumF f c m := by
  induction m with
  | zero => simp [sumF]
  | succ m ih =>
    rw [ih (by omega)]
    have e : c - m = (c - 1 - m) + 1 := by omega
    have e2 : c - (m + 1) = c - 1 - m := by omega
    rw [e, e2]
    simp only [numF, sumF, Int.pow_succ, Int.add_mul]
    rw [Int.mul_comm 16 (numF f (c - 1 - m)), Int.mul_assoc, Int.mul_comm 16 (16 ^ m), Int.add_assoc, Int.add_comm (sumF f c m)]

/-- With count digits, the last min(8, count) of them say the low 32 bits. -/
theorem valF_sum (f : Nat → Int) (c m : Nat) (h : m ≤ c) (h8 : m = c ∨ m = 8) : wrap32 (sumF f c m) = valF f c := by
  rw [valF_num, numF_split f c m h]
  rcases h8 with rfl | rfl
  · simp [numF]
  · have : (16 : Int) ^ 8 = 4294967296 := by decide
    rw [this]; unfold wrap32; omega

/-! ### Written, then read back -/
def hexC (d : Int) (upper : Bool) : Int := if d < 10 then 48 + d else if upper then 55 + d else 87 + d

theorem hexD_hexC (d : Int) (u : Bool) (h0 : 0 ≤ d) (h1 : d < 16) : hexD (hexC d u) = d := by
  unfold hexC
  by_cases h : d < 10
  · rw [if_pos h]; unfold hexD; rw [if_pos (by omega)]; omega
  · rw [if_neg h]
    cases u
    · unfold hexD; rw [if_neg (by simp; omega), if_pos (by simp; omega)]; simp; omega
    · unfold hexD; rw [if_neg (by simp; omega), if_neg (by simp; omega), if_pos (by simp; omega)]; simp; omega

theorem numF_written (f : Nat → Int) (v : Int) (c : Nat) (h : ∀ i, i < c → hexD (f i) = v / 16 ^ (c - 1 - i) % 16) : ∀ k, k ≤ c → numF f k = v / 16 ^ (c - k) % 16 ^ k := by
  intro k
  induction k with
  | zero => intro _; simp [numF]
  | succ k ih =>
    intro hk
    simp only [numF]
    rw [ih (by omega), h k (by omega)]
    have e : c - k = (c - 1 - k) + 1 := by omega
    have e2 : c - (k + 1) = c - 1 - k := by omega
    rw [e, e2]
    rw [Int.pow_succ, ← Int.ediv_ediv_of_nonneg (Int.pow_nonneg (by decide)), Int.pow_succ]
    generalize v / 16 ^ (c - 1 - k) = x
    have hp : (0 : Int) < 16 ^ k := Int.pow_pos (by decide)
    have e1 := Int.mul_ediv_add_emod (x / 16) (16 ^ k)
    have r0 := Int.emod_nonneg (x / 16) (show (16 : Int) ^ k ≠ 0 by omega)
    have r1 := Int.emod_lt_of_pos (x / 16) hp
    generalize x / 16 % 16 ^ k = r at e1 r0 r1 ⊢
    have e3 : x = (16 * r + x % 16) + (16 ^ k * 16) * (x / 16 / 16 ^ k) := by
      rw [Int.mul_right_comm]
      generalize 16 ^ k * (x / 16 / 16 ^ k) = y at e1 ⊢
      omega
    have e4 : x % (16 ^ k * 16) = 16 * r + x % 16 := by
      conv => lhs; rw [e3]
      rw [Int.add_mul_emod_self_left, Int.emod_eq_of_lt (by omega) (by omega)]
    exact e4.symm

/-! ### What hexValue hands back, k the number of leading digits -/
def hexR (f : Nat → Int) (k : Nat) (count : Int) : Int := if (k : Int) < count then 0 else valF f count.toNat
def hexN (k : Nat) (count : Int) : Int := if (k : Int) < count then (k : Int) else count

/-- 'v<<4 | d' -/
theorem or_digit (v d : Int) (h0 : 0 ≤ d) (h1 : d < 16) : bits .or .i32 (wrap32 (v * 16)) d = wrap32 (16 * v + d) := by
  have hw : ∀ x : Int, IntKind.i32.wrap x = wrap32 x := by intro x; simp [IntKind.wrap, IntKind.bits, IntKind.signed, wrap32]; split <;> omega
  have hb : (IntKind.i32).bits = 32 := rfl
  simp only [bits, hw, hb, BitVec.toNat_or, BitVec.toNat_ofInt]
  have e1 : (wrap32 (v * 16) % ((2 ^ 32 : Nat) : Int)).toNat = 2 ^ 4 * (v % 268435456).toNat := by
    unfold wrap32; omega
  have e2 : (d % ((2 ^ 32 : Nat) : Int)).toNat = d.toNat := by omega
  rw [e1, e2, ← Nat.two_pow_add_eq_or_of_lt (by omega)]
  unfold wrap32; omega

theorem valF_step (f : Nat → Int) (j : Nat) (d : Int) (hd : hexD (f j) = d) (h0 : 0 ≤ d) : bits .or .i32 (wrap32 (valF f j * 16)) d = valF f (j + 1) := by
  have := hexD_le (f j)
  rw [or_digit _ _ h0 (by omega)]
  simp only [valF, hd]

theorem lead_next {f : Nat → Int} {n k j : Nat} (h : IsLead f n k) (hj : j ≤ k) (hn : j < n) (hd : 0 ≤ hexD (f j)) : j + 1 ≤ k := by
  obtain ⟨h1, h2, h3⟩ := h
  by_cases e : j < k
  · omega
  · have : j = k := by omega
    subst this; have := h3 hn; omega

theorem lead_stop {f : Nat → Int} {n k j : Nat} (h : IsLead f n k) (hj : j ≤ k) (hd : hexD (f j) < 0) : j = k := by
  obtain ⟨h1, h2, h3⟩ := h
  by_cases e : j < k
  · have := h2 j e; omega
  · omega

theorem hexD_dec {c : Int} (h : 48 ≤ c) (h' : c ≤ 57) : hexD c = c - 48 := by unfold hexD; rw [if_pos ⟨h, h'⟩]
theorem hexD_low {c : Int} (h : 97 ≤ c) (h' : c ≤ 102) : hexD c = c - 97 + 10 := by unfold hexD; rw [if_neg (by omega), if_pos ⟨h, h'⟩]; omega
theorem hexD_up {c : Int} (h : 65 ≤ c) (h' : c ≤ 70) : hexD c = c - 65 + 10 := by unfold hexD; rw [if_neg (by omega), if_neg (by omega), if_pos ⟨h, h'⟩]; omega
theorem hexD_no {c : Int} (h1 : c < 48 ∨ 57 < c) (h2 : c < 97 ∨ 102 < c) (h3 : c < 65 ∨ 70 < c) : hexD c = -1 := by unfold hexD; rw [if_neg (by omega), if_neg (by omega), if_neg (by omega)]

theorem hex_ranges (c : Int) (h0 : 0 ≤ c) (h1 : c ≤ 255) : (48 ≤ c ∧ c ≤ 57) ∨ (97 ≤ c ∧ c ≤ 102) ∨ (65 ≤ c ∧ c ≤ 70) ∨ (c < 48) ∨ (57 < c ∧ c < 65) ∨ (70 < c ∧ c < 97) ∨ (102 < c) := by omega

theorem hexOut_stop {f : Nat → Int} {k : Nat} {count : Int} (h : (k : Int) < count) : hexR f k count = 0 ∧ hexN k count = k := by simp [hexR, hexN, h]
theorem hexOut_all {f : Nat → Int} {k j : Nat} {count : Int} (hj : j ≤ k) (h : count = j) : hexR f k count = valF f j ∧ hexN k count = count := by
  subst h; simp [hexR, hexN]; omega
end Go.Proofs.Qxb6601229aMods
