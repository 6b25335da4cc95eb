/- Bits as bools: what Bits and Divisor return; the division on lists. -/
import Derived.Test.YtiibhdhmkjpafaaChecked
import Derived.Test.YtiibhdhmkjpafaaBy
import Derived.Test.YtiibhdhmkjpafaaPlain
import Derived.WalkKit
import Derived.LoopTactic
import Derived.IntWalk
namespace Go.Proofs.Ytiibhdhmkjpafaa
open Go.RowKit
def boolV (b : Bool) : Value := .bool b
theorem info_bool : (Try.prog.info? 4).map (fun i => (i.zero, i.size, i.bytes)) = some (some (.bool false), 1, 1) := by kernel_rfl
theorem bools_one (l : List Bool) : ∀ v ∈ l.map boolV, v.oneCell' = true := by
  intro v hv
  obtain ⟨x, _, rfl⟩ := List.mem_map.1 hv
  rfl
theorem cell_one (w : World) (v : Value) (t : TypeId) : Cells (w.alloc (.cells #[v] t)) (w.heap.size + 1) (some ⟨w.heap.size, 0, none⟩) [v] := by
  intro _
  refine ⟨_, _, rfl, by omega, fun j x hx => ?_⟩
  cases j with
  | zero => simp at hx; subst hx; exact (Blk.new w t #[v]).cell 0
  | succ j => simp at hx
/-- append(out, x) of a bool -/
theorem push_bool {w0 w : World} {base n : Nat} {v : Value} {l : List Bool} (hown : w.ownsRow base 4 1 v n (l.map boolV)) (hb : Below base w0 w) (hbase : base ≤ w0.heap.size) (x : Bool) (hm : n + 1 ≤ 140737488355328) :
    ∃ A' c' w', (Builtin.append_ #[41, 41] 41 #[v, .slice (some ⟨w.heap.size, 0, none⟩) 1 1]).run Try.prog (w.alloc (.cells #[.bool x] 4)) = .ok (.slice A' (n + 1) c') w' ∧
      w'.ownsRow base 4 1 (.slice A' (n + 1) c') (n + 1) ((l ++ [x]).map boolV) ∧ Below base w0 w' := by
  obtain ⟨i0, hi, hz0, hz1, hz2⟩ := info_parts info_bool
  have hbn : Below base w0 (w.alloc (.cells #[.bool x] 4)) := hb.alloc (Nat.le_trans hbase hb.size) _
  obtain ⟨A3, c3, w3, hr3, hown3, _, hb3, _, _⟩ := run_app (P := Try.prog) (w.alloc (.cells #[.bool x] 4)) base 41 41 4 i0 (.bool false) 1 Try.underlying41 hi hz0 hz1 hz2 rfl v n _ (hown.alloc _) (w.heap.size + 1) (some ⟨w.heap.size, 0, none⟩) 1 1 [.bool x] rfl (cell_one w _ _) (by simp [Value.oneCell']) (by unfold maxLen; omega) (by omega) (Nat.le_trans hbase hbn.size)
  refine ⟨A3, c3, w3, hr3, ?_, hbn.trans hb3⟩
  rw [List.map_append]; exact hown3
theorem bit_odd (b : BitVec 8) (k : Nat) : odd (b >>> k) = b.getLsbD k := by
  unfold odd
  rw [BitVec.getLsbD_ushiftRight, Nat.add_zero]
/-- the bits of the first i bytes, and k of the next -/
def bitsAt (l : List (BitVec 8)) (i k : Nat) : List Bool := Crc.bitsOf (l.take i) ++ (Crc.bits8 (nth l i)).take k
theorem bitsAt_length (l : List (BitVec 8)) (i k : Nat) (hi : i ≤ l.length) (hk : k ≤ 8) : (bitsAt l i k).length = 8 * i + k := by
  unfold bitsAt
  rw [List.length_append, Crc.bitsOf_length, List.length_take, List.length_take, Crc.bits8_length]; omega
theorem bitsAt_succ (l : List (BitVec 8)) (i k : Nat) (hk : k < 8) : bitsAt l i k ++ [odd (nth l i >>> k)] = bitsAt l i (k + 1) := by
  unfold bitsAt
  rw [List.append_assoc]
  congr 1
  rw [List.take_succ_eq_append_getElem (by rw [Crc.bits8_length]; exact hk), bit_odd]
  simp [Crc.bits8]
theorem bitsAt_next (l : List (BitVec 8)) (i : Nat) (hi : i < l.length) : bitsAt l i 8 = bitsAt l (i + 1) 0 := by
  unfold bitsAt
  have h8 : (Crc.bits8 (nth l i)).take 8 = Crc.bits8 (nth l i) := List.take_of_length_le (by rw [Crc.bits8_length]; omega)
  rw [take_succ_nth l i hi, h8, List.take_zero, List.append_nil]
  simp [Crc.bitsOf]
theorem bitsAt_last (l : List (BitVec 8)) : bitsAt l l.length 0 = Crc.bitsOf l := by
  unfold bitsAt
  rw [List.take_length, List.take_zero, List.append_nil]
/-- a row of bools of the call's own -/
def BoolsPost (r : List Bool) (n : Nat) (w : World) (e : Ending) (w' : World) : Prop := ∃ A c, e = .returned (.slice A n c) ∧ w'.ownsRow w.heap.size 4 1 (.slice A n c) n (r.map boolV) ∧ Below w.heap.size w w'
set_option maxRecDepth 100000 in
set_option maxHeartbeats 800000 in
theorem bits_any (a : Option Addr) (l : List (BitVec 8)) (n ca : Nat) (hn : n = l.length) (hm : n ≤ 2147483647) (w : World) (B : Nat) (hA : Bytes w B a l) (hBB : B ≤ w.heap.size) :
    Calls Try.prog 16 #[.slice a n ca] w (BoolsPost (Crc.bitsOf l) (8 * n) w) := by
  have Hn : Hid (n = l.length) := hn
  clear hn
  go_enter Try.func16, Try.ntmps16
  go_wp2_with fail
  go_loopw [3, 4, 5] (fun s i _ wr => ∃ k m : Nat, k ≤ n ∧ Hid (m = 8 * k) ∧ i = .int .i64 k ∧ wr.ownsRow w.heap.size 4 1 s m ((bitsAt l k 0).map boolV) ∧ Below w.heap.size w wr) (fun _ i _ _ => n - (intOf i).toNat)
  case atStart => exact ⟨0, 0, by omega, rfl, rfl, World.ownsRow_nil _ _ _ _, Below.refl _ _⟩
  case round =>
    obtain ⟨i, m, hi, Hm, rfl, hown, hbr⟩ := hrel
    obtain ⟨A, c, rfl, hcl, _, _⟩ := ownsRow_form hown
    by_cases hlt : i < n
    · have hd : decide ((i : Int) < (n : Int)) = true := decide_eq_true (by omega)
      obtain ⟨b1, o1, rfl, hl1, hc1⟩ := hA (by rw [← Hn.out]; omega)
      have hck := hc1 i (by rw [← Hn.out]; exact hlt)
      clear hc1
      go_wp2_with fail
      obtain ⟨wo, rfl⟩ : ∃ wo : World, wo = wr := ⟨_, rfl⟩
      go_loopw [3, 5] (fun s j wr => ∃ k m : Nat, k ≤ 8 ∧ Hid (m = 8 * i + k) ∧ j = .int .i64 k ∧ wr.ownsRow w.heap.size 4 1 s m ((bitsAt l i k).map boolV) ∧ Below w.heap.size w wr) (fun _ j _ => 8 - (intOf j).toNat)
      case atStart => exact ⟨0, m, by omega, Hm, rfl, hown, hbr⟩
      case round =>
        clear hown hbr hcl Hm
        obtain ⟨k, m, hk, Hm, rfl, hown, hbr⟩ := hrel
        obtain ⟨A, c, rfl, hcl, _, _⟩ := ownsRow_form hown
        by_cases hlt2 : k < 8
        · have hd2 : decide ((k : Int) < 8) = true := decide_eq_true (by omega)
          have hck2 : wr.cell? ⟨b1, o1 + i, none⟩ = some (.int .u8 (u (nth l i))) := (hbr.cell (p := ⟨b1, o1 + i, none⟩) (by show b1 < _; omega)).trans hck
          have hmin : min k 8 = k := by omega
          obtain ⟨A3, c3, w3, hr3, hown3, hb3⟩ := push_bool hown hbr (Nat.le_refl _) (odd (nth l i >>> k)) (by have := Hm.out; omega)
          rw [bitsAt_succ l i k hlt2] at hown3
          go_wp2_with (at_builtin; refine wpList_run_append rfl _ _ _ _ rfl rfl rfl hr3 ?_)
          clear hr3
          go_roundw
          case rel => exact ⟨k + 1, m + 1, by omega, by have := Hm.out; show _ = _; omega, by go_num, hown3, hb3⟩
          case measure => simp [intOf]; omega
        · obtain rfl : k = 8 := by omega
          rw [bitsAt_next l i (by rw [← Hn.out]; exact hlt)] at hown
          go_wp2_with fail
          go_roundw
          case rel => exact ⟨i + 1, m, by omega, by have := Hm.out; show _ = _; omega, by go_num, hown, hbr⟩
          case measure => simp [intOf]; omega
    · obtain rfl : i = n := by omega
      rw [Hn.out, bitsAt_last] at hown
      have hm8 : m = 8 * i := Hm.out
      subst hm8
      go_wp2_with fail
      go_ret
      exact ⟨A, c, rfl, hown, hbr⟩
/-- the divisor's coefficients -/
def divAt (P : BitVec 64) (k : Nat) : List Bool := true :: (List.range k).map fun i => P.getLsbD i
theorem odd64 (P : BitVec 64) (k : Nat) : odd (P >>> k) = P.getLsbD k := by
  unfold odd
  rw [BitVec.getLsbD_ushiftRight, Nat.add_zero]
theorem divAt_succ (P : BitVec 64) (k : Nat) : divAt P k ++ [odd (P >>> k)] = divAt P (k + 1) := by
  unfold divAt
  rw [odd64, List.range_succ, List.map_append]; rfl
theorem divAt_length (P : BitVec 64) (k : Nat) : (divAt P k).length = k + 1 := by simp [divAt]
set_option maxRecDepth 100000 in
set_option maxHeartbeats 800000 in
theorem divisor_any (P : BitVec 64) (n : Nat) (hm : n ≤ 64) (w : World) :
    Calls Try.prog 18 #[.int .u64 (u P), .int .i64 n] w (BoolsPost (divAt P n) (n + 1) w) := by
  go_enter Try.func18, Try.ntmps18
  go_wp2_with fail
  go_loopw [5, 6] (fun s i wr => ∃ k m : Nat, k ≤ n ∧ Hid (m = k + 1) ∧ i = .int .i64 k ∧ wr.ownsRow w.heap.size 4 1 s m ((divAt P k).map boolV) ∧ Below w.heap.size w wr) (fun _ i _ => n - (intOf i).toNat)
  case atStart => exact ⟨0, 1, by omega, rfl, rfl, World.ownsRow_lit w #[.bool true] 1 (Nat.le_refl _) (by unfold maxLen; omega) rfl, (Below.refl _ _).alloc (Nat.le_refl _) _⟩
  case round =>
    obtain ⟨k, m, hk, Hm, rfl, hown, hbr⟩ := hrel
    obtain ⟨A, c, rfl, hcl, _, _⟩ := ownsRow_form hown
    by_cases hlt : k < n
    · have hd : decide ((k : Int) < (n : Int)) = true := decide_eq_true (by omega)
      have hmin : min k 64 = k := by omega
      obtain ⟨A3, c3, w3, hr3, hown3, hb3⟩ := push_bool hown hbr (Nat.le_refl _) (odd (P >>> k)) (by have := Hm.out; omega)
      rw [divAt_succ] at hown3
      go_wp2_with (at_builtin; refine wpList_run_append rfl _ _ _ _ rfl rfl rfl hr3 ?_)
      clear hr3
      go_roundw
      case rel => exact ⟨k + 1, m + 1, by omega, by have := Hm.out; show _ = _; omega, by go_num, hown3, hb3⟩
      case measure => simp [intOf]; omega
    · obtain rfl : k = n := by omega
      have hm1 : m = k + 1 := Hm.out
      subst hm1
      go_wp2_with fail
      go_ret
      exact ⟨A, c, rfl, hown, hbr⟩
/-- k coefficients of d added to r from i on -/
def xorTo (r d : List Bool) (i : Nat) : Nat → List Bool
  | 0 => r
  | k + 1 => (xorTo r d i k).set (i + k) ((xorTo r d i k).getD (i + k) false != d.getD k false)
theorem xorTo_length (r d : List Bool) (i k : Nat) : (xorTo r d i k).length = r.length := by
  induction k with
  | zero => rfl
  | succ k ih => rw [xorTo, List.length_set, ih]
theorem xorTo_getD (r d : List Bool) (i k j : Nat) (h : i + k ≤ r.length) : (xorTo r d i k).getD j false = if i ≤ j ∧ j < i + k then (r.getD j false != d.getD (j - i) false) else r.getD j false := by
  induction k with
  | zero =>
    rw [if_neg (by omega)]; rfl
  | succ k ih =>
    have hih := ih (by omega)
    rw [xorTo]
    by_cases e : i + k = j
    · subst e
      rw [List.getD_eq_getElem?_getD, List.getElem?_set_self (by rw [xorTo_length]; omega), if_pos (by omega), Option.getD_some, hih, if_neg (by omega), show i + k - i = k by omega]
    · rw [List.getD_eq_getElem?_getD, List.getElem?_set_ne e, ← List.getD_eq_getElem?_getD, hih]
      by_cases h2 : i ≤ j ∧ j < i + k
      · rw [if_pos h2, if_pos (by omega)]
      · rw [if_neg h2, if_neg (by omega)]
/-- the division behind i coefficients -/
def restAt (xs d : List Bool) : Nat → List Bool
  | 0 => xs
  | i + 1 => if (restAt xs d i).getD i false then xorTo (restAt xs d i) d i d.length else restAt xs d i
theorem restAt_length (xs d : List Bool) (i : Nat) : (restAt xs d i).length = xs.length := by
  induction i with
  | zero => rfl
  | succ i ih =>
    rw [restAt]
    split
    · rw [xorTo_length, ih]
    · exact ih
theorem bool_some {l : List Bool} {j : Nat} (hj : j < l.length) : (l.map boolV)[j]? = some (.bool (l.getD j false)) := by
  rw [List.getElem?_map, List.getElem?_eq_getElem hj]
  simp [boolV, hj]
/-- append([]bool{}, xs...) -/
theorem copy_bools (w : World) (A : Option Addr) (l : List Bool) (n c B : Nat) (hn : n = l.length) (hA : Cells w B A (l.map boolV)) (hB : B ≤ w.heap.size) (hm : n ≤ 140737488355328) :
    ∃ A' c' w', (Builtin.append_ #[41, 41] 41 #[.slice (some ⟨w.heap.size, 0, none⟩) 0 0, .slice A n c]).run Try.prog (w.alloc (.cells #[] 4)) = .ok (.slice A' n c') w' ∧
      w'.ownsRow w.heap.size 4 1 (.slice A' n c') n (l.map boolV) ∧ Below w.heap.size w w' ∧ n ≤ c' := by
  obtain ⟨i0, hi, hz0, hz1, hz2⟩ := info_parts info_bool
  have hbe : Below w.heap.size w (w.alloc (.cells #[] 4)) := (Below.refl _ w).alloc (Nat.le_refl _) _
  obtain ⟨A1, c1, w1, hr1, hown1, _, hb1, hc1, _⟩ := run_app (P := Try.prog) (w.alloc (.cells #[] 4)) w.heap.size 41 41 4 i0 (.bool false) 1 Try.underlying41 hi hz0 hz1 hz2 rfl _ 0 [] (World.ownsRow_made w #[] 0 (Nat.le_refl _) (by unfold maxLen; omega) rfl) B A n c (l.map boolV) (by rw [List.length_map]; exact hn.symm) (hA.below hbe hB) (bools_one l) (by unfold maxLen; omega) (by omega) hbe.size
  simp only [Nat.zero_add, List.nil_append] at hr1 hown1 hc1
  exact ⟨A1, c1, w1, hr1, hown1, hbe.trans hb1, hc1⟩
end Go.Proofs.Ytiibhdhmkjpafaa
