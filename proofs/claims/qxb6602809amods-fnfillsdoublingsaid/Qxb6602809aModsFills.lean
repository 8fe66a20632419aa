/- commonNames, fills, ZZFillsB1, ZZPatternOfB1, fillsOfCcB1. -/
import Derived.Test.Qxb6602809aModsToDN
import Derived.Lib.SmallJoins
namespace Go.Proofs.Qxb6602809aMods
open Go.ChangeShapes Go.WideShapes Go.ChangeAt Go.RowKit
set_option linter.unusedVariables false

theorem Trym.info85 : (Trym.prog.info? 85).map (fun i => (i.zero, i.size, i.bytes)) = some (some (.agg #[.int .i64 0, .int .i64 0]), 2, 16) := by kernel_rfl

/-- Is a text 'CN'? As the walk spells it. -/
def cnB (t : ByteArray) : Bool := t.toList == [67, 78]
/-- How many of the first k attributes of a row are common names; how many of the first n rows'. -/
def cntRow (T : Nat → ByteArray) : Nat → Nat
  | 0 => 0
  | k + 1 => cntRow T k + (if cnB (T k) then 1 else 0)
def cntAll (m : Nat → Nat) (T : Nat → Nat → ByteArray) : Nat → Nat
  | 0 => 0
  | n + 1 => cntAll m T n + cntRow (T n) (m n)

theorem cntRow_le (T : Nat → ByteArray) (k : Nat) : cntRow T k ≤ k := by
  induction k with
  | zero => simp [cntRow]
  | succ k ih => simp only [cntRow]; split <;> omega
theorem cntAll_le (m : Nat → Nat) (T : Nat → Nat → ByteArray) (n : Nat) (hm : ∀ i, i < n → m i ≤ 1048576) : cntAll m T n ≤ n * 1048576 := by
  induction n with
  | zero => simp [cntAll]
  | succ n ih =>
    have h1 := ih (fun i hi => hm i (by omega))
    have h2 := cntRow_le (T n) (m n)
    have h3 := hm n (by omega)
    simp only [cntAll]
    omega

/-- A slice handed back, of a known length. -/
structure LenOut (e : Ending) (n : Nat) : Prop where
  out : ∃ a c, e = .returned (.slice a n c)

set_option maxHeartbeats 2000000 in
set_option maxRecDepth 20000 in
theorem names_any (a : Option Addr) (n c : Nat) (m : Nat → Nat) (T : Nat → Nat → ByteArray) (w : World) (h : Subj w a n m T) (hn : n ≤ 2097152) (hm : ∀ i, i < n → m i ≤ 1048576) :
    Calls Trym.prog 50 #[.slice a n c] w fun e w' => LenOut e (cntAll m T n) ∧ Below w.heap.size w w' := by
  have H : Hid (Subj w a n m T) := h
  have HM : Hid (∀ i, i < n → m i ≤ 1048576) := hm
  clear h hm
  obtain ⟨i0, hi0, hz0, hz1, hz2⟩ := info_parts Trym.info85
  go_enter Trym.func50, Trym.ntmps50
  go_wp2
  go_loopg [3, 10] n (fun g v i wr => ∃ (k : Nat) (xs : List Value), g = n - k ∧ k ≤ n ∧ i = .int .i64 k ∧ wr.ownsRow w.heap.size 85 2 v (cntAll m T k) xs ∧ Below w.heap.size w wr)
  case atStart => exact ⟨0, [], rfl, Nat.zero_le _, rfl, World.ownsRow_nil _ _ _ _, Below.refl _ _⟩
  case round =>
    obtain ⟨k, xs, rfl, hk, rfl, hown, hb⟩ := hrel
    have HO : Hid (wr.ownsRow w.heap.size 85 2 u3 (cntAll m T k) xs) := hown
    have HB : Hid (Below w.heap.size w wr) := hb
    by_cases hlt : k < n
    · obtain ⟨b, off, ea, hc⟩ := H.out (by omega)
      subst ea
      obtain ⟨ra, rc, hrc0, hrow⟩ := hc k hlt
      have hmk := HM.out k hlt
      have hrc : wr.cell? ⟨b, off + k, none⟩ = some (.slice ra (m k) rc) := (hb.cell (World.block_lt_of_cell? _ _ hrc0)).trans hrc0
      have hL : Hid (∀ wi : World, Below w.heap.size w wi → RowAt wi ra (m k) (T k)) := fun wi hbi => hrow.below hbi
      have hcn := cntAll_le m T k (fun i hi => HM.out i (by omega))
      clear hc hrc0 hrow hown hb
      obtain ⟨M, hM⟩ : ∃ M, M = m k := ⟨_, rfl⟩
      have HMM : Hid (M = m k) := hM
      rw [← hM] at hmk hrc hL
      clear hM
      obtain ⟨C, hC⟩ : ∃ C, C = cntAll m T k := ⟨_, rfl⟩
      have HCC : Hid (C = cntAll m T k) := hC
      rw [← hC] at HO hcn
      clear hC
      go_wp2
      go_loopg [3, 17] M (fun g v j wi => ∃ (t : Nat) (xs : List Value), g = M - t ∧ t ≤ M ∧ j = .int .i64 t ∧ wi.ownsRow w.heap.size 85 2 v (C + cntRow (T k) t) xs ∧ Below w.heap.size w wi)
      case atStart => exact ⟨0, xs, rfl, Nat.zero_le _, rfl, HO.out, HB.out⟩
      case round =>
        obtain ⟨t, ys, rfl, ht, rfl, hoi, hbi⟩ := hrel
        obtain ⟨wi, hwi⟩ : ∃ wi : World, wi = wr := ⟨_, rfl⟩
        subst hwi
        have hcr := cntRow_le (T k) t
        by_cases hti : t < M
        · obtain ⟨rb, ro, era, hat⟩ := hL.out wi hbi (by omega)
          subst era
          obtain ⟨a0, v, x, cc, a1, a2, a3⟩ := hat t hti
          have hlt0 : rb < wi.heap.size := World.block_lt_of_cell? _ _ a0
          clear hat
          obtain ⟨q, hq⟩ : ∃ q, q = C + cntRow (T k) t := ⟨_, rfl⟩
          have HQ : Hid (q = C + cntRow (T k) t) := hq
          rw [← hq] at hoi
          have hqb : q ≤ 2199024304128 := by omega
          clear hq
          cases hcnB : cnB (T k t) with
          | true =>
            have hstr : ((T k t).toList == [67, 78]) = true := hcnB
            have hsz := hbi.size
            go_wp2_with (at_builtin; refine wpList_append_own _ rfl (.tmp 25) (.tmp 29) 76 rfl w.heap.size 85 i0 (.agg #[.int .i64 0, .int .i64 0]) 2 16 Trym.underlying76 hi0 hz0 hz1 hz2 rfl (by decide) _ _ _ rfl ((hoi.alloc _).alloc _) ⟨wi.heap.size + 1, 0, none⟩ 1 1 [.int .i64 (k : Int), .int .i64 (t : Int)] rfl rfl ?c1 ?c2 ?c3 ?c4 ?c5 ?_)
            case c1 =>
              intro j u hj
              match j, hj with
              | 0, hj => simp at hj; subst hj; simp [Addr.add]
              | 1, hj => simp at hj; subst hj; simp [Addr.add]
            case c2 =>
              intro u hu
              simp at hu
              rcases hu with rfl | rfl <;> rfl
            case c3 => unfold maxLen; omega
            case c4 => omega
            case c5 => simp; omega
            · intro v' w1 hown' hgrow _
              have HOI : Hid (wi.ownsRow w.heap.size 85 2 u3 q ys) := hoi
              have HBI : Hid (Below w.heap.size w wi) := hbi
              have HOW : Hid (w1.ownsRow w.heap.size 85 2 v' (q + 1) (ys ++ [.int .i64 (k : Int), .int .i64 (t : Int)])) := hown'
              have HGR : Hid (Below w.heap.size w w1) := by
                refine ((hbi.alloc hbi.size _).alloc (by simp; omega) _).grown hgrow (by simp; omega) (fun g hg => ?_)
                exact (hoi.lt g hg).1
              clear hoi hbi hown' hgrow
              go_wp2
              go_roundg (M - (t + 1))
              case measure => omega
              case rel => exact ⟨t + 1, _, rfl, by omega, by go_num, by simp only [cntRow, hcnB]; exact (by rw [if_pos trivial, ← Nat.add_assoc, ← HQ.out]; exact HOW.out), HGR.out⟩
          | false =>
            have hstr : ((T k t).toList == [67, 78]) = false := hcnB
            have HOI : Hid (wi.ownsRow w.heap.size 85 2 u3 q ys) := hoi
            have HBI : Hid (Below w.heap.size w wi) := hbi
            clear hoi hbi
            go_wp2
            go_roundg (M - (t + 1))
            case measure => omega
            case rel => exact ⟨t + 1, ys, rfl, by omega, by go_num, by simp only [cntRow, hcnB]; exact (by rw [← Nat.add_assoc, ← HQ.out]; exact HOI.out.alloc _), HBI.out.alloc HBI.out.size _⟩
        · obtain rfl : t = M := by omega
          have HOI : Hid (wi.ownsRow w.heap.size 85 2 u3 (C + cntRow (T k) t) ys) := hoi
          have HBI : Hid (Below w.heap.size w wi) := hbi
          clear hoi hbi
          go_wp2
          go_roundg (n - (k + 1))
          case measure => omega
          case rel => exact ⟨k + 1, ys, rfl, by omega, by go_num, by simp only [cntAll]; rw [← HCC.out, ← HMM.out]; exact HOI.out, HBI.out⟩
    · obtain rfl : k = n := by omega
      rcases Joins.ownsRow_forms HO.out with ⟨hv, h0⟩ | ⟨g, cap, hv⟩
      · rw [hv]
        have H0 : Hid (cntAll m T k = 0) := h0
        clear hown hb h0 hv HO
        go_wp2
        go_ret
        exact ⟨⟨_, _, by rw [H0.out]; rfl⟩, HB.out⟩
      · rw [hv]
        clear hown hb hv HO
        go_wp2
        go_ret
        exact ⟨⟨_, _, rfl⟩, HB.out⟩

/-- What fills answers: c the number of common names. -/
def fillsF (typ : Int) (np c : Nat) : Int := if typ = 1 ∨ typ = 2 then np else if typ = 0 then 1 else if c = 1 then 1 else 0

theorem ret_i64 {a b : Int} (h : a = b) : Ending.returned (.int .i64 a) = .returned (.int .i64 b) := by rw [h]

set_option maxHeartbeats 1000000 in
theorem fills_any (typ : Int) (pa : Option Addr) (np pc : Nat) (rest : ByteArray) (a : Option Addr) (n c : Nat) (m : Nat → Nat) (T : Nat → Nat → ByteArray) (w : World) (h : Subj w a n m T) (hn : n ≤ 2097152) (hm : ∀ i, i < n → m i ≤ 1048576) :
    Calls Trym.prog 45 #[.agg #[.int .i64 typ, .slice pa np pc, .string rest, .slice a n c]] w fun e w' => e = .returned (.int .i64 (fillsF typ np (cntAll m T n))) ∧ Below w.heap.size w w' := by
  have H : Hid (Subj w a n m T) := h
  have HM : Hid (∀ i, i < n → m i ≤ 1048576) := hm
  clear h hm
  by_cases h1 : typ = 1
  · subst h1
    have e : Hid (fillsF 1 np (cntAll m T n) = np) := by show _ = _; simp [fillsF]
    go_enter Trym.func45, Trym.ntmps45
    go_wp2
    go_ret
    exact ⟨ret_i64 e.out.symm, (Below.refl _ _).alloc (Nat.le_refl _) _⟩
  · by_cases h2 : typ = 2
    · subst h2
      have e : Hid (fillsF 2 np (cntAll m T n) = np) := by show _ = _; simp [fillsF]
      clear h1
      go_enter Trym.func45, Trym.ntmps45
      go_wp2
      go_ret
      exact ⟨ret_i64 e.out.symm, (Below.refl _ _).alloc (Nat.le_refl _) _⟩
    · by_cases h0 : typ = 0
      · subst h0
        have e : Hid (fillsF 0 np (cntAll m T n) = 1) := by show _ = _; simp [fillsF]
        clear h1 h2
        go_enter Trym.func45, Trym.ntmps45
        go_wp2
        go_ret
        exact ⟨ret_i64 e.out.symm, (Below.refl _ _).alloc (Nat.le_refl _) _⟩
      · have e : Hid (fillsF typ np (cntAll m T n) = if cntAll m T n = 1 then 1 else 0) := by show _ = _; simp [fillsF, h0, h1, h2]
        have e1 : (typ == 1) = false := by simpa using h1
        have e2 : (typ == 2) = false := by simpa using h2
        have e0 : (typ == 0) = false := by simpa using h0
        clear h0 h1 h2
        have hcl := cntAll_le m T n HM.out
        obtain ⟨K, hK⟩ : ∃ K, K = cntAll m T n := ⟨_, rfl⟩
        have HK : Hid (K = cntAll m T n) := hK
        rw [← hK] at e hcl ⊢
        clear hK
        go_enter Trym.func45, Trym.ntmps45
        go_wp2_with fail
        refine (names_any a n c m T _ (H.out.below ((Below.refl _ _).alloc (Nat.le_refl _) _)) hn HM.out).mono ?_
        rintro r w1 ⟨⟨x, y, rfl⟩, hb⟩
        rw [← HK.out]
        have HB : Hid (Below w.heap.size w w1) := ((Below.refl _ _).alloc (Nat.le_refl _) _).trans (hb.mono (by simp))
        clear hb
        by_cases hk : K = 1
        · subst hk
          have e' : Hid (fillsF typ np 1 = 1) := by show fillsF typ np 1 = 1; have := e.out; simpa using this
          go_wp2
          go_ret
          exact ⟨ret_i64 e'.out.symm, HB.out⟩
        · have e' : Hid (fillsF typ np K = 0) := by have := e.out; rw [if_neg hk] at this; exact this
          have hk' : ((K : Int) == 1) = false := by simp; omega
          clear hk
          go_wp2
          go_ret
          exact ⟨ret_i64 e'.out.symm, HB.out⟩

theorem zzfills_any (typ : Int) (pa : Option Addr) (np pc : Nat) (rest : ByteArray) (a : Option Addr) (n c : Nat) (m : Nat → Nat) (T : Nat → Nat → ByteArray) (w : World) (h : Subj w a n m T) (hn : n ≤ 2097152) (hm : ∀ i, i < n → m i ≤ 1048576) :
    Calls Trym.prog 35 #[.agg #[.int .i64 typ, .slice pa np pc, .string rest, .slice a n c]] w fun e w' => e = .returned (.int .i64 (fillsF typ np (cntAll m T n))) ∧ Below w.heap.size w w' := by
  have H : Hid (Subj w a n m T) := h
  have HM : Hid (∀ i, i < n → m i ≤ 1048576) := hm
  clear h hm
  go_enter Trym.func35, Trym.ntmps35
  go_wp2_with fail
  refine (fills_any typ pa np pc rest a n c m T _ (H.out.below ((Below.refl _ _).alloc (Nat.le_refl _) _)) hn HM.out).mono ?_
  rintro r w1 ⟨rfl, hb⟩
  go_wp2
  go_ret
  exact ⟨rfl, ((Below.refl _ _).alloc (Nat.le_refl _) _).trans (hb.mono (by simp))⟩

theorem zzpat_any (typ : Int) (pa : Option Addr) (np pc : Nat) (rest : ByteArray) (a : Option Addr) (n c : Nat) (w : World) :
    Calls Trym.prog 36 #[.int .i64 typ, .slice pa np pc, .string rest, .slice a n c] w fun e w' => e = .returned (.agg #[.int .i64 typ, .slice pa np pc, .string rest, .slice a n c]) ∧ Below w.heap.size w w' := by
  go_enter Trym.func36, Trym.ntmps36
  go_wp2
  exact bodyPost_ret (v := .agg #[.int .i64 typ, .slice pa np pc, .string rest, .slice a n c]) (by simp [results, Trym.results36, go_sem]) rfl ⟨rfl, (Below.refl _ _).alloc (Nat.le_refl _) _⟩

/-- fillsOfCcB1. -/
theorem fillsOf_any (typ : Int) (pa : Option Addr) (np pc : Nat) (rest : ByteArray) (a : Option Addr) (n c : Nat) (m : Nat → Nat) (T : Nat → Nat → ByteArray) (w : World) (h : Subj w a n m T) (hnil : a = none → n = 0 ∧ c = 0) (hn : n ≤ 2097152) (hm : ∀ i, i < n → m i ≤ 1048576) :
    Calls Trym.prog 29 #[.int .i64 typ, .slice pa np pc, .string rest, .slice a n c] w fun e w' => e = .returned (.int .i64 (fillsF typ np (cntAll m T n))) ∧ Below w.heap.size w w' := by
  have H : Hid (Subj w a n m T) := h
  have HM : Hid (∀ i, i < n → m i ≤ 1048576) := hm
  have HN : Hid (a = none → n = 0 ∧ c = 0) := hnil
  clear h hm hnil
  go_enter Trym.func29, Trym.ntmps29
  go_wp2_with fail
  refine (toDN_any a n c m T w H.out HN.out hn HM.out).mono ?_
  rintro r w1 ⟨⟨a', c', rfl, hS, _⟩, hb1⟩
  have HS : Hid (Subj w1 a' n m T) := hS
  clear hS
  go_wp2_with fail
  refine (zzpat_any _ _ _ _ _ _ _ _ _).mono ?_
  rintro r w2 ⟨rfl, hb2⟩
  go_wp2_with fail
  refine (zzfills_any typ pa np pc rest a' n c' m T w2 (HS.out.below hb2) hn HM.out).mono ?_
  rintro r w3 ⟨rfl, hb3⟩
  go_wp2
  go_ret
  exact ⟨rfl, (hb1.trans (hb2.mono hb1.size)).trans (hb3.mono (Nat.le_trans hb1.size hb2.size))⟩
end Go.Proofs.Qxb6602809aMods
