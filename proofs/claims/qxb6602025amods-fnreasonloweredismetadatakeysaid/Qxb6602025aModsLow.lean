/- FnReasonLoweredIsMetadataKey: the walk. -/
import Derived.Test.Qxb6602025aModsMeta
import Derived.Deep.OwnRows
namespace Go.Proofs.Qxb6602025aMods
open Go.ChangeShapes Go.WideShapes Go.ChangeAt Go.RowKit
set_option linter.unusedVariables false

theorem Trym.info5 : (Trym.prog.info? 5).map (fun i => (i.zero, i.size, i.bytes)) = some (some (.int .u8 0), 1, 1) := by kernel_rfl

theorem zzb14_yes (s : ByteArray) (w : World) (h : s.size ≤ 1048576) : Calls Trym.prog 14 #[.string s] w fun e w' => e = .returned (.bool true) ∧ w' = w := by
  go_enter Trym.func14, Trym.ntmps14
  go_wp2
  go_ret
  exact ⟨rfl, rfl⟩
theorem zzb14_no (s : ByteArray) (w : World) (h : 1048576 < s.size) (hm : s.size ≤ maxLen) : Calls Trym.prog 14 #[.string s] w fun e w' => e = .returned (.bool false) ∧ w' = w := by
  unfold maxLen at hm
  go_enter Trym.func14, Trym.ntmps14
  go_wp2
  go_ret
  exact ⟨rfl, rfl⟩

/-- A letter lowered; all else as it is. -/
def lowF (c : Int) : Int := if upB c then c + 32 else c

theorem conv_row (b n : Nat) (F : Nat → Int) (w : World) (hr : w.rowIs b 5 n (fun i => .int .u8 (F i))) :
    (convert 24 9 (.slice (some ⟨b, 0, none⟩) n n)).run Trym.prog w = .ok (.string (strOfNums ((List.range n).map F))) w :=
  run_convert_bytes_arg w 24 5 Trym.underlying24 Trym.underlying5 b 0 n n _ (by simp) (fun i hi => by
    rw [Nat.zero_add, hr.cell hi]
    simp [hi]) 9 Trym.underlying9

theorem byt_nums (n : Nat) (F : Nat → Int) (i : Nat) (hi : i < n) (h0 : 0 ≤ F i) (h1 : F i ≤ 255) : byt (strOfNums ((List.range n).map F)) i = F i := by
  unfold byt
  rw [strOfNums_data]
  simp [hi]
  omega

theorem size_nums (n : Nat) (F : Nat → Int) : (strOfNums ((List.range n).map F)).size = n := by rw [strOfNums_size]; simp

/-- What a reason's bytes are. -/
theorem reason_bytes {f : Nat → Int} {n : Nat} (h : Reason f n) : (65 ≤ f 0 ∧ f 0 ≤ 90) ∧ ∀ i, i < n → (65 ≤ f i ∧ f i ≤ 90) ∨ (48 ≤ f i ∧ f i ≤ 57) ∨ f i = 95 := by
  refine ⟨?_, fun i hi => ?_⟩
  · have := (okR_iff (f := f) (n := n) (k := 0) rfl).1 (h.2.2 0 (by have := h.1; omega)); omega
  · have := (okR_iff (f := f) (n := n) (k := i) rfl).1 (h.2.2 i hi); omega

theorem first_key {f : Nat → Int} {n : Nat} (h : Reason f n) : 2 ≤ n ∧ n ≤ 64 ∧ (97 ≤ byt (strOfNums ((List.range n).map fun i => if i = 0 then f 0 + 32 else f i)) 0 ∧ byt (strOfNums ((List.range n).map fun i => if i = 0 then f 0 + 32 else f i)) 0 ≤ 122) ∧
    ∀ i, 0 < i → i < n → OkM (byt (strOfNums ((List.range n).map fun i => if i = 0 then f 0 + 32 else f i)) i) := by
  obtain ⟨h0, hb⟩ := reason_bytes h
  have h3 := h.1
  have h63 := h.2.1
  refine ⟨by omega, by omega, ?_, fun i hi hn => ?_⟩
  · rw [byt_nums _ _ 0 (by omega) (by simp; omega) (by simp; omega)]; simp; omega
  · have hz : ¬ i = 0 := by omega
    have := hb i hn
    rw [byt_nums _ _ i hn (by simp [hz]; omega) (by simp [hz]; omega)]
    simp only [hz, if_false]
    unfold OkM; omega

theorem all_key {f : Nat → Int} {n : Nat} (h : Reason f n) : 2 ≤ n ∧ n ≤ 64 ∧ (97 ≤ byt (strOfNums ((List.range n).map fun i => lowF (f i))) 0 ∧ byt (strOfNums ((List.range n).map fun i => lowF (f i))) 0 ≤ 122) ∧
    ∀ i, 0 < i → i < n → OkM (byt (strOfNums ((List.range n).map fun i => lowF (f i))) i) := by
  obtain ⟨h0, hb⟩ := reason_bytes h
  have h3 := h.1
  have h63 := h.2.1
  have hl : ∀ i, i < n → (lowF (f i) = f i + 32 ∧ 65 ≤ f i ∧ f i ≤ 90) ∨ (lowF (f i) = f i ∧ ((48 ≤ f i ∧ f i ≤ 57) ∨ f i = 95)) := by
    intro i hi
    unfold lowF
    rcases hb i hi with h | h | h
    · left; simp [upB, h]
    · right; refine ⟨?_, .inl h⟩; rw [if_neg (by simp [upB]; omega)]
    · right; refine ⟨?_, .inr h⟩; rw [if_neg (by simp [upB]; omega)]
  refine ⟨by omega, by omega, ?_, fun i hi hn => ?_⟩
  · have := hl 0 (by omega)
    rw [byt_nums _ _ 0 (by omega) (by omega) (by omega)]; omega
  · have := hl i hn
    rw [byt_nums _ _ i hn (by omega) (by omega)]
    unfold OkM; omega

theorem low_rel {w wr : World} {f : Nat → Int} {n k : Nat} {v : Int} (hg : Grown w wr) (h1 : wr.rowIs w.heap.size 5 n (fun j => if j < k then .int .u8 (f j) else .int .u8 0)) (h2 : wr.rowIs (w.heap.size + 1) 5 n (fun j => if j < k then .int .u8 (lowF (f j)) else .int .u8 0)) (hv : lowF (f k) = v) :
    Grown w ((wr.setCell ⟨w.heap.size, k, none⟩ (.int .u8 (f k))).setCell ⟨w.heap.size + 1, k, none⟩ (.int .u8 v)) ∧
    ((wr.setCell ⟨w.heap.size, k, none⟩ (.int .u8 (f k))).setCell ⟨w.heap.size + 1, k, none⟩ (.int .u8 v)).rowIs w.heap.size 5 n (fun j => if j < k + 1 then .int .u8 (f j) else .int .u8 0) ∧
    ((wr.setCell ⟨w.heap.size, k, none⟩ (.int .u8 (f k))).setCell ⟨w.heap.size + 1, k, none⟩ (.int .u8 v)).rowIs (w.heap.size + 1) 5 n (fun j => if j < k + 1 then .int .u8 (lowF (f j)) else .int .u8 0) := by
  refine ⟨(hg.setCell (by simp) _).setCell (by simp) _, ((h1.set k _).setOther (by simp) _).congr fun j hj => ?_, ((h2.setOther (by simp) _).set k _).congr fun j hj => ?_⟩
  · by_cases e : j = k
    · subst e; simp
    · by_cases e2 : j < k
      · rw [if_neg e, if_pos e2, if_pos (by omega)]
      · rw [if_neg e, if_neg e2, if_neg (by omega)]
  · by_cases e : j = k
    · subst e; simp [hv]
    · by_cases e2 : j < k
      · rw [if_neg e, if_pos e2, if_pos (by omega)]
      · rw [if_neg e, if_neg e2, if_neg (by omega)]

set_option maxHeartbeats 2000000 in
theorem walk5 (s : ByteArray) (w : World) (hr : Reason (byt s) s.size) : Calls Trym.prog 5 #[.string s] w fun e w' => e = .returned (.bool true) ∧ Grown w w' := by
  have h3 : 3 ≤ s.size := hr.1
  have h63 : s.size ≤ 63 := hr.2.1
  have K1 : Hid _ := first_key hr
  have K2 : Hid _ := all_key hr
  have HR : Hid _ := hr
  have hB := (reason_bytes hr).1
  clear hr
  have hmk := run_make_row' (P := Trym.prog) 24 5 (.int .u8 0) 1 Trym.underlying24 Trym.info5 rfl .i64 .i64 s.size (by omega) (by omega)
  go_enter Trym.func5, Trym.ntmps5
  go_wp2_with fail
  refine (zzb14_yes _ _ (by omega)).mono ?_
  rintro e w' ⟨rfl, hw'⟩
  obtain rfl := hw'.symm
  go_wp2_with fail
  refine (zzrsn_any s true w ⟨fun _ => HR.out, fun _ => rfl⟩).mono ?_
  rintro e w' ⟨rfl, hw'⟩
  obtain rfl := hw'.symm
  go_wp2
  clear hmk
  go_loopw [5] (fun i wr => ∃ k : Nat, k ≤ s.size ∧ i = .int .i64 k ∧ Grown w wr ∧ wr.rowIs w.heap.size 5 s.size (fun j => if j < k then .int .u8 (byt s j) else .int .u8 0) ∧ wr.rowIs (w.heap.size + 1) 5 s.size (fun j => if j < k then .int .u8 (lowF (byt s j)) else .int .u8 0)) (fun i _ => (s.size - intOf i).toNat)
  case atStart =>
    refine ⟨0, Nat.zero_le _, rfl, ((Grown.refl _).alloc _ _).alloc _ _, ((World.rowIs_made w (.int .u8 0) s.size 5).alloc _).congr (fun i hi => by simp), ?_⟩
    have := World.rowIs_made (w.alloc (Obj.cells (madeCells #[Value.int IntKind.u8 0] s.size) 5)) (.int .u8 0) s.size 5
    simp only [World.size_alloc] at this
    exact this.congr (fun i hi => by simp)
  case round =>
    obtain ⟨k, hk, rfl, hg, hr1, hr2⟩ := hrel
    by_cases hlt : k < s.size
    · have hb := byt_eq s k hlt
      have hbd := byt_bd s k
      have hc1 := hr1.cell hlt
      have hf1 := hr1.frozen k
      have hc2 := hr2.cell hlt
      have hf2 := hr2.frozen k
      cases hu : upB (byt s k) with
      | true =>
        have hub : byt s k ≤ 90 := by simp [upB] at hu; omega
        go_wp2_with fail
        refine (upper_any _ _).mono ?_
        rintro e w' ⟨rfl, hw'⟩
        obtain rfl := hw'.symm
        go_wp2
        go_roundw
        case rel =>
          obtain ⟨r1, r2, r3⟩ := low_rel (f := byt s) hg hr1 hr2 (show lowF (byt s k) = byt s k + 32 by simp [lowF, hu])
          exact ⟨k + 1, by omega, by go_num, r1, r2, r3⟩
        case measure => simp [intOf]; omega
      | false =>
        go_wp2_with fail
        refine (upper_any _ _).mono ?_
        rintro e w' ⟨rfl, hw'⟩
        obtain rfl := hw'.symm
        go_wp2
        go_roundw
        case rel =>
          obtain ⟨r1, r2, r3⟩ := low_rel (f := byt s) hg hr1 hr2 (show lowF (byt s k) = byt s k by simp [lowF, hu])
          exact ⟨k + 1, by omega, by go_num, r1, r2, r3⟩
        case measure => simp [intOf]; omega
    · obtain rfl : k = s.size := by omega
      have hb0 := byt_eq s 0 (by omega)
      have hc0 := hr1.cell (i := 0) (by omega)
      have hf0 := hr1.frozen 0
      have hv1 := conv_row w.heap.size s.size (fun i => if i = 0 then byt s 0 + 32 else byt s i) (wr.setCell ⟨w.heap.size, 0, none⟩ (.int .u8 (byt s 0 + 32))) ((hr1.set 0 _).congr fun j hj => by
        by_cases e : j = 0
        · simp [e]
        · simp [e, hj])
      have hv2 := conv_row (w.heap.size + 1) s.size (fun i => lowF (byt s i)) (wr.setCell ⟨w.heap.size, 0, none⟩ (.int .u8 (byt s 0 + 32))) ((hr2.setOther (by simp) _).congr fun j hj => by simp [hj])
      have hgo : Hid (Grown w (wr.setCell ⟨w.heap.size, 0, none⟩ (.int .u8 (byt s 0 + 32)))) := hg.setCell (by simp) _
      clear hr1 hr2 hg
      go_wp2_with fail
      refine (zzkey_yes _ _ (by rw [size_nums]; omega) (by rw [size_nums]; omega) K1.out.2.2.1 (by rw [size_nums]; exact K1.out.2.2.2)).mono ?_
      rintro e w' ⟨rfl, hw'⟩
      obtain rfl := hw'.symm
      go_wp2_with fail
      refine (zzkey_yes _ _ (by rw [size_nums]; omega) (by rw [size_nums]; omega) K2.out.2.2.1 (by rw [size_nums]; exact K2.out.2.2.2)).mono ?_
      rintro e w' ⟨rfl, hw'⟩
      obtain rfl := hw'.symm
      go_wp2
      go_ret
      exact ⟨rfl, hgo.out⟩
end Go.Proofs.Qxb6602025aMods
