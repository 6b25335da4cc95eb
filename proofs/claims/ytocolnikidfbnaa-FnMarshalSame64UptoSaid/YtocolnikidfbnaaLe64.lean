/- Eight bytes as a number: what leUint64 returns. -/
import Derived.Test.YtocolnikidfbnaaChecked
import Derived.Test.YtocolnikidfbnaaMem
import Derived.Test.YtocolnikidfbnaaPlain
import Derived.WalkKit
import Derived.LoopTactic
namespace Go.Proofs.Ytocolnikidfbnaa
open Go.RowKit
/-- the bytes from i on to 8, as a number -/
def leFrom (l : List (BitVec 8)) (i : Nat) : BitVec 64 := Crc.le 64 ((l.take 8).drop i)
theorem leFrom_pred (l : List (BitVec 8)) (i : Nat) (hi : i < 8) (hl : 8 ≤ l.length) : leFrom l (i + 1) <<< 8 ||| (nth l i).setWidth 64 = leFrom l i := by
  unfold leFrom
  have e : (l.take 8).drop i = nth l i :: (l.take 8).drop (i + 1) := by
    rw [List.drop_eq_getElem_cons (by simp; omega)]
    congr 1
    simp [nth, show i < l.length by omega]
  rw [e, Crc.le_or, BitVec.or_comm]
theorem leFrom_last (l : List (BitVec 8)) : leFrom l 8 = 0#64 := by
  unfold leFrom
  rw [List.drop_of_length_le (by simp; omega)]; rfl
theorem leFrom_zero (l : List (BitVec 8)) : leFrom l 0 = Crc.le 64 (l.take 8) := rfl
set_option maxHeartbeats 400000 in
theorem le64_any (A : Option Addr) (l : List (BitVec 8)) (n cap B : Nat) (w : World) (hn : n = l.length) (h8 : 8 ≤ n) (hA : Bytes w B A l) :
    Calls Try.prog 31 #[.slice A n cap] w fun e w' => e = .returned (.int .u64 (u (Crc.le 64 (l.take 8)))) ∧ w = w' := by
  obtain ⟨b, off, rfl, hb, hc⟩ := hA (by omega)
  have Hn : Hid (n = l.length) := hn
  have HC : Hid (∀ j, j < l.length → w.cell? ⟨b, off + j, none⟩ = some (.int .u8 (u (nth l j)))) := hc
  clear hn hA hc
  go_enter Try.func31, Try.ntmps31
  go_wp2_with fail
  go_loop [3, 4] (fun x i => ∃ k : Nat, k ≤ 8 ∧ i = .int .i64 ((k : Int) - 1) ∧ x = .int .u64 (u (leFrom l k))) (fun _ i => (intOf i + 1).toNat)
  case atStart => exact ⟨8, by omega, rfl, by rw [leFrom_last]; rfl⟩
  case round =>
    obtain ⟨k, hk, rfl, rfl⟩ := hrel
    by_cases hp : 0 < k
    · obtain ⟨j, rfl⟩ : ∃ j, k = j + 1 := ⟨k - 1, by omega⟩
      have e1 : ((j + 1 : Nat) : Int) - 1 = (j : Int) := by omega
      rw [e1]
      have hd : decide ((0 : Int) ≤ (j : Int)) = true := decide_eq_true (by omega)
      have hck := HC.out j (by rw [← Hn.out]; omega)
      have i1 : (j : Int) < (n : Int) := by omega
      clear e1
      go_wp2_with fail
      go_round
      case rel => exact ⟨j, by omega, rfl, by rw [leFrom_pred l j (by omega) (by rw [← Hn.out]; exact h8)]⟩
      case measure => simp [intOf]
    · obtain rfl : k = 0 := by omega
      go_wp2_with fail
      go_ret
      exact ⟨ret_u (leFrom_zero l), rfl⟩
end Go.Proofs.Ytocolnikidfbnaa
