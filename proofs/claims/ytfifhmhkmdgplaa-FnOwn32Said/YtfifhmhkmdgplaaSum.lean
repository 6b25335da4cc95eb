/- The reference's sum, bit by bit, of a slice of bytes: what Sum returns. -/
import Derived.Test.YtfifhmhkmdgplaaChecked
import Derived.Test.YtfifhmhkmdgplaaBase
import Derived.Test.YtfifhmhkmdgplaaPlain
import Derived.Test.YtfifhmhkmdgplaaMem
import Derived.Test.YtfifhmhkmdgplaaReg
import Derived.WalkKit
import Derived.Outline
import Derived.LoopTactic
namespace Go.Proofs.Ytfifhmhkmdgplaa
open Go.RowKit
/-- the register behind k bytes -/
def regK (p c : BitVec 32) (l : List (BitVec 8)) (k : Nat) : BitVec 32 := Crc.crcReg p (~~~ c) (l.take k)
theorem regK_succ (p c : BitVec 32) (l : List (BitVec 8)) (k : Nat) (h : k < l.length) : Crc.byteReg p (regK p c l k) (nth l k) = regK p c l (k + 1) := by
  unfold regK
  rw [take_succ_nth l k h, Crc.crcReg_append]; rfl
theorem regK_last (p c : BitVec 32) (l : List (BitVec 8)) : ~~~ regK p c l l.length = Crc.sum p c l := by
  unfold regK Crc.sum
  rw [List.take_length]
set_option maxHeartbeats 400000 in
theorem sum_any (p c : BitVec 32) (A : Option Addr) (l : List (BitVec 8)) (n cap B : Nat) (w : World) (hn : n = l.length) (hm : n ≤ 140737488355328) (hA : Bytes w B A l) :
    Calls Try.prog 22 #[.int .u32 (u p), .int .u32 (u c), .slice A n cap] w fun e w' => e = .returned (.int .u32 (u (Crc.sum p c l))) ∧ w = w' := by
  have Hn : Hid (n = l.length) := hn
  clear hn
  go_enter Try.func22, Try.ntmps22
  go_wp2
  go_loop [7, 8] (fun r i => ∃ k : Nat, k ≤ n ∧ i = .int .i64 k ∧ r = .int .u32 (u (regK p c l k))) (fun _ i => n - (intOf i).toNat)
  case atStart => exact ⟨0, by omega, rfl, rfl⟩
  case round =>
    obtain ⟨k, hk, rfl, rfl⟩ := hrel
    by_cases hlt : k < n
    · obtain ⟨b, off, rfl, hb, hc⟩ := hA (by rw [← Hn.out]; omega)
      have hck := hc k (by rw [← Hn.out]; exact hlt)
      clear hc hA
      go_wp2_with fail
      refine (byte_any _ _ _ _).mono ?_
      rintro e w' ⟨rfl, rfl⟩
      go_wp2
      go_round
      case rel => exact ⟨k + 1, by omega, by go_num, by rw [regK_succ p c l k (by rw [← Hn.out]; exact hlt)]⟩
      case measure => simp [intOf]; omega
    · obtain rfl : k = n := by omega
      go_wp2
      go_ret
      exact ⟨ret_u (by rw [← regK_last, ← Hn.out]), rfl⟩
end Go.Proofs.Ytfifhmhkmdgplaa
