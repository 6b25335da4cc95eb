/- beUint64, errors.New, Sum64. -/
import Derived.Test.YtocolnikidfbnaaChecked
import Derived.Test.YtocolnikidfbnaaBe
import Derived.WalkKit
import Derived.LoopTactic
namespace Go.Proofs.Ytocolnikidfbnaa
open Go.RowKit
/-- the number that k bytes make, the highest first -/
def beTo (l : List (BitVec 8)) : Nat → BitVec 64
  | 0 => 0#64
  | k + 1 => beTo l k <<< 8 ||| (nth l k).setWidth 64
theorem beTo_of (x : BitVec 64) (l : List (BitVec 8)) (h : ∀ j, j < 8 → nth l j = (x >>> (56 - 8 * j)).setWidth 8) : ∀ k, k ≤ 8 → beTo l k = x >>> (64 - 8 * k) := by
  intro k
  induction k with
  | zero =>
    intro _
    apply BitVec.eq_of_getLsbD_eq
    intro i hi
    simp [beTo, BitVec.getLsbD_of_ge]
  | succ k ih =>
    intro hk
    rw [beTo, ih (by omega), h k (by omega)]
    apply BitVec.eq_of_getLsbD_eq
    intro i hi
    simp only [BitVec.getLsbD_or, BitVec.getLsbD_shiftLeft, BitVec.getLsbD_setWidth, BitVec.getLsbD_ushiftRight]
    by_cases h8 : i < 8
    · simp [h8, hi, show 64 - 8 * (k + 1) + i = 56 - 8 * k + i by omega]
    · simp [h8, hi, show 64 - 8 * (k + 1) + i = 64 - 8 * k + (i - 8) by omega]
theorem nth_be8 (x : BitVec 64) (m : List (BitVec 8)) : ∀ j, j < 8 → nth (be8 x ++ m) j = (x >>> (56 - 8 * j)).setWidth 8 := by
  intro j hj
  unfold be8 nth
  rcases (show j = 0 ∨ j = 1 ∨ j = 2 ∨ j = 3 ∨ j = 4 ∨ j = 5 ∨ j = 6 ∨ j = 7 by omega) with rfl | rfl | rfl | rfl | rfl | rfl | rfl | rfl <;> simp
theorem beTo_be8 (x : BitVec 64) (m : List (BitVec 8)) : beTo (be8 x ++ m) 8 = x := by
  rw [beTo_of x _ (nth_be8 x m) 8 (by omega)]
  simp
theorem be64_any (A : Option Addr) (l : List (BitVec 8)) (n cap B : Nat) (w : World) (hn : n = l.length) (h8 : 8 ≤ n) (hA : Bytes w B A l) :
    Calls Try.prog 34 #[.slice A n cap] w fun e w' => e = .returned (.int .u64 (u (beTo l 8))) ∧ w = w' := by
  obtain ⟨b, off, rfl, hb, hc⟩ := hA (by omega)
  have Hn : Hid (n = l.length) := hn
  have HC : Hid (∀ j, j < l.length → w.cell? ⟨b, off + j, none⟩ = some (.int .u8 (u (nth l j)))) := hc
  clear hn hA hc
  go_enter Try.func34, Try.ntmps34
  go_wp2_with fail
  go_loop [3, 4] (fun x i => ∃ k : Nat, k ≤ 8 ∧ i = .int .i64 k ∧ x = .int .u64 (u (beTo l k))) (fun _ i => 8 - (intOf i).toNat)
  case atStart => exact ⟨0, by omega, rfl, rfl⟩
  case round =>
    obtain ⟨k, hk, rfl, rfl⟩ := hrel
    by_cases hp : k < 8
    · have hd : decide ((k : Int) < 8) = true := decide_eq_true (by omega)
      have hck := HC.out k (by rw [← Hn.out]; omega)
      have i1 : (k : Int) < (n : Int) := by omega
      go_wp2_with fail
      go_round
      case rel => exact ⟨k + 1, by omega, by go_num, rfl⟩
      case measure => simp [intOf]; omega
    · obtain rfl : k = 8 := by omega
      go_wp2_with fail
      go_ret
      exact ⟨rfl, rfl⟩
theorem errNew_any (s : ByteArray) (w : World) : Calls Try.prog 32 #[.string s] w fun e w' => ∃ t v, e = .returned (.iface t v) ∧ Below w.heap.size w w' := by
  go_enter Try.func32, Try.ntmps32
  go_wp2_with fail
  go_ret
  exact ⟨_, _, rfl, (Below.refl _ _).alloc (Nat.le_refl _) _⟩
end Go.Proofs.Ytocolnikidfbnaa
