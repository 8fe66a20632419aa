/- attrsSizeCcB1, the law's bound on lengths. -/
import Derived.Test.Qxb6602809aModsBase
namespace Go.Proofs.Qxb6602809aMods
open Go.ChangeShapes Go.WideShapes Go.ChangeAt Go.RowKit
set_option linter.unusedVariables false

set_option maxHeartbeats 2000000 in
set_option maxRecDepth 20000 in
theorem asize_any (a : Option Addr) (n c : Nat) (m : Nat → Nat) (T : Nat → Nat → ByteArray) (w : World) (h : Subj w a n m T) (hn : n ≤ 1048576) (hm : ∀ i, i < n → m i ≤ 1048576) :
    Calls Trym.prog 26 #[.slice a n c] w fun e w' => (∃ z, e = .returned (.int .i64 z)) ∧ Below w.heap.size w w' := by
  have H : Hid (Subj w a n m T) := h
  have HM : Hid (∀ i, i < n → m i ≤ 1048576) := hm
  clear h hm
  go_enter Trym.func26, Trym.ntmps26
  go_wp2
  go_loopg [3, 4] n (fun g x i wr => ∃ (k : Nat) (z : Int), g = n - k ∧ k ≤ n ∧ i = .int .i64 k ∧ x = .int .i64 z ∧ Below w.heap.size w wr)
  case atStart => exact ⟨0, _, rfl, Nat.zero_le _, rfl, rfl, Below.refl _ _⟩
  case round =>
    obtain ⟨k, z, rfl, hk, rfl, rfl, hb⟩ := hrel
    by_cases hlt : k < n
    · obtain ⟨b, off, ea, hc⟩ := H.out (by omega)
      subst ea
      obtain ⟨ra, rc, hrc, hrow⟩ := hc k hlt
      have hmk := HM.out k hlt
      have hL : Hid (∀ wr : World, Below w.heap.size w wr → wr.cell? ⟨b, off + k, none⟩ = some (.slice ra (m k) rc) ∧ RowAt wr ra (m k) (T k)) := fun wr hb => ⟨(hb.cell (World.block_lt_of_cell? _ _ hrc)).trans hrc, hrow.below hb⟩
      have HB : Hid (Below w.heap.size w wr) := hb
      clear hc hrc hrow hb
      obtain ⟨M, hM⟩ : ∃ M, M = m k := ⟨_, rfl⟩
      rw [← hM] at hmk hL
      clear hM
      go_wp2
      go_loopg [3, 5] M (fun g x j wi => ∃ (t : Nat) (z : Int), g = M - t ∧ t ≤ M ∧ j = .int .i64 t ∧ x = .int .i64 z ∧ Below w.heap.size w wi)
      case atStart => exact ⟨0, _, rfl, Nat.zero_le _, rfl, rfl, HB.out⟩
      case round =>
        obtain ⟨t, z', rfl, ht, rfl, rfl, hbi⟩ := hrel
        obtain ⟨wi, hwi⟩ : ∃ wi : World, wi = wr := ⟨_, rfl⟩
        subst hwi
        obtain ⟨c1, rw1⟩ := hL.out wi hbi
        by_cases hti : t < M
        · obtain ⟨rb, ro, era, hat⟩ := rw1 (by omega)
          subst era
          obtain ⟨a0, v, x, cc, a1, a2, a3⟩ := hat t hti
          have HBI : Hid (Below w.heap.size w wi) := hbi
          clear hat hbi hL rw1
          go_wp2
          all_goals first
            | (go_roundg (M - (t + 1))
               case measure => omega
               case rel => exact ⟨t + 1, _, rfl, by omega, by go_num, rfl, HBI.out.alloc HBI.out.size _⟩)
            | (go_ret
               exact ⟨⟨_, rfl⟩, HBI.out.alloc HBI.out.size _⟩)
        · have HBI : Hid (Below w.heap.size w wi) := hbi
          clear hbi hL rw1
          go_wp2
          all_goals first
            | (go_roundg (n - (k + 1))
               case measure => omega
               case rel => exact ⟨k + 1, _, rfl, by omega, by go_num, rfl, HBI.out⟩)
            | (go_ret
               exact ⟨⟨_, rfl⟩, HBI.out⟩)
    · go_wp2
      go_ret
      exact ⟨⟨_, rfl⟩, hb⟩

/-- What zzBytes_FnFillsDoubling answers: a bool; where it is true, the lengths are bounded. -/
structure Zz (e : Ending) (np n : Nat) (m : Nat → Nat) : Prop where
  out : ∃ R, e = .returned (.bool R) ∧ (R = true → np ≤ 1048576 ∧ n ≤ 1048576 ∧ ∀ i, i < n → m i ≤ 1048576)
theorem Zz.no (np n : Nat) (m : Nat → Nat) : Zz (.returned (.bool false)) np n m := ⟨false, rfl, fun h => by cases h⟩
theorem Zz.yes {np n : Nat} {m : Nat → Nat} (h1 : np ≤ 1048576) (h2 : n ≤ 1048576) (h3 : ∀ i, i < n → m i ≤ 1048576) : Zz (.returned (.bool true)) np n m := ⟨true, rfl, fun _ => ⟨h1, h2, h3⟩⟩

set_option maxHeartbeats 4000000 in
set_option maxRecDepth 20000 in
theorem zzb31_any (typ : Int) (pa : Option Addr) (np pc : Nat) (rest : ByteArray) (a : Option Addr) (n c : Nat) (m : Nat → Nat) (T : Nat → Nat → ByteArray) (w : World) (hP : Strs w pa np) (h : Subj w a n m T) (hnp : np ≤ maxLen) (hn : n ≤ maxLen) (hr : rest.size ≤ maxLen) :
    Calls Trym.prog 31 #[.int .i64 typ, .slice pa np pc, .string rest, .slice a n c] w fun e w' => Zz e np n m ∧ w' = w := by
  unfold maxLen at hnp hn hr
  have HP : Hid (Strs w pa np) := hP
  have H : Hid (Subj w a n m T) := h
  clear hP h
  by_cases h1 : np ≤ 1048576
  · go_enter Trym.func31, Trym.ntmps31
    go_wp2
    go_loop [9, 10] (fun x i => ∃ (k : Nat) (z : Int), k ≤ np ∧ i = .int .i64 k ∧ x = .int .i64 z) (fun _ i => np - (intOf i).toNat)
    case atStart => exact ⟨0, _, Nat.zero_le _, rfl, rfl⟩
    case round =>
      obtain ⟨k, z, hk, rfl, rfl⟩ := hrel
      by_cases hlt : k < np
      · obtain ⟨b, off, ea, hc⟩ := HP.out (by omega)
        subst ea
        obtain ⟨s, hs⟩ := hc k hlt
        clear hc
        go_wp2
        all_goals first
          | (go_round
             case rel => exact ⟨k + 1, _, by omega, by go_num, rfl⟩
             case measure => simp [intOf]; omega)
          | (go_ret
             exact ⟨Zz.no _ _ _, rfl⟩)
      · by_cases hn1 : n ≤ 1048576
        · go_wp2
          all_goals try (go_ret; exact ⟨Zz.no _ _ _, rfl⟩)
          go_loop [9, 11, 12] (fun x i _ => ∃ (k : Nat) (z : Int), k ≤ n ∧ i = .int .i64 k ∧ x = .int .i64 z ∧ ∀ i, i < k → m i ≤ 1048576) (fun _ i _ => n - (intOf i).toNat)
          case atStart => exact ⟨0, _, Nat.zero_le _, rfl, rfl, fun i h => by omega⟩
          case round =>
            obtain ⟨k', z', hk', rfl, rfl, hall⟩ := hrel
            have HA : Hid (∀ i, i < k' → m i ≤ 1048576) := hall
            clear hall
            by_cases hlt' : k' < n
            · obtain ⟨b, off, ea, hc⟩ := H.out (by omega)
              subst ea
              obtain ⟨ra, rc, hrc, hrow⟩ := hc k' hlt'
              have HR : Hid (RowAt w ra (m k') (T k')) := hrow
              clear hc hrow
              obtain ⟨M, hM⟩ : ∃ M, M = m k' := ⟨_, rfl⟩
              have HMM : Hid (M = m k') := hM
              rw [← hM] at hrc HR
              clear hM
              by_cases hM1 : M ≤ 1048576
              · go_wp2
                all_goals try (go_ret; exact ⟨Zz.no _ _ _, rfl⟩)
                go_loop [9, 12] (fun x j => ∃ (t : Nat) (z : Int), t ≤ M ∧ j = .int .i64 t ∧ x = .int .i64 z) (fun _ j => M - (intOf j).toNat)
                case atStart => exact ⟨0, _, Nat.zero_le _, rfl, rfl⟩
                case round =>
                  obtain ⟨t, z'', ht, rfl, rfl⟩ := hrel
                  by_cases hti : t < M
                  · obtain ⟨rb, ro, era, hat⟩ := HR.out (by omega)
                    subst era
                    obtain ⟨a0, v, x, cc, a1, a2, a3⟩ := hat t hti
                    clear hat
                    go_wp2
                    all_goals first
                      | (go_round
                         case rel => exact ⟨t + 1, _, by omega, by go_num, rfl⟩
                         case measure => simp [intOf]; omega)
                      | (go_ret
                         exact ⟨Zz.no _ _ _, rfl⟩)
                  · go_wp2
                    go_round
                    case rel => exact ⟨k' + 1, _, by omega, by go_num, rfl, fun i hi => by
                      by_cases e : i = k'
                      · subst e; rw [← HMM.out]; exact hM1
                      · exact HA.out i (by omega)⟩
                    case measure => simp [intOf]; omega
              · go_wp2
                go_ret
                exact ⟨Zz.no _ _ _, rfl⟩
            · go_wp2
              go_ret
              exact ⟨Zz.yes h1 hn1 (fun i hi => HA.out i (by omega)), rfl⟩
        · go_wp2
          all_goals
            go_ret
            exact ⟨Zz.no _ _ _, rfl⟩
  · go_enter Trym.func31, Trym.ntmps31
    go_wp2
    go_ret
    exact ⟨Zz.no _ _ _, rfl⟩
end Go.Proofs.Qxb6602809aMods
