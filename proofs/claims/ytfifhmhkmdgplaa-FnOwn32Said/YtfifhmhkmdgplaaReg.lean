/- The reference's register, bit by bit and behind a byte: what Step and Byte return. -/
import Derived.Test.YtfifhmhkmdgplaaChecked
import Derived.Test.YtfifhmhkmdgplaaBase
import Derived.Test.YtfifhmhkmdgplaaPlain
import Derived.WalkKit
import Derived.Outline
import Derived.LoopTactic
namespace Go.Proofs.Ytfifhmhkmdgplaa
open Go.RowKit
/-- a register behind a bit, as the reference types it -/
def stepx (p c b : BitVec 32) : BitVec 32 := c >>> 1 ^^^ (if odd (c ^^^ b) then p else 0#32)
theorem stepx_t (p c b : BitVec 32) (h : odd (c ^^^ b) = true) : stepx p c b = c >>> 1 ^^^ p := by simp only [stepx, h]; rfl
theorem stepx_f (p c b : BitVec 32) (h : odd (c ^^^ b) = false) : stepx p c b = c >>> 1 := by simp [stepx, h]
theorem step_any (p c b : BitVec 32) (w : World) : Calls Try.prog 32 #[.int .u32 (u p), .int .u32 (u c), .int .u32 (u b)] w fun e w' => e = .returned (.int .u32 (u (stepx p c b))) ∧ w = w' := by
  cases h : odd (c ^^^ b) with
  | true =>
    rw [stepx_t p c b h]
    go_enter Try.func32, Try.ntmps32
    go_wp2
    go_ret
    exact ⟨rfl, rfl⟩
  | false =>
    rw [stepx_f p c b h]
    go_enter Try.func32, Try.ntmps32
    go_wp2
    go_ret
    exact ⟨rfl, rfl⟩
/-- the register in the midst of a byte -/
def regAt (p c : BitVec 32) (b : BitVec 8) (k : Nat) : BitVec 32 := Crc.steps p k (c ^^^ b.setWidth 32) ^^^ (b.setWidth 32 >>> k)
theorem regAt_succ (p c : BitVec 32) (b : BitVec 8) (k : Nat) : stepx p (regAt p c b k) (b.setWidth 32 >>> k &&& 1#32) = regAt p c b (k + 1) := by
  unfold regAt stepx
  rw [Crc.steps_succ']
  generalize Crc.steps p k (c ^^^ b.setWidth 32) = s
  rw [show b.setWidth 32 >>> (k + 1) = (b.setWidth 32 >>> k) >>> 1 from BitVec.shiftRight_add _ _ _]
  generalize b.setWidth 32 >>> k = x
  have e2 : odd (s ^^^ x ^^^ (x &&& 1#32)) = s.getLsbD 0 := by
    unfold odd
    simp
  rw [e2, BitVec.ushiftRight_xor_distrib]
  unfold Crc.step
  rw [BitVec.xor_assoc, BitVec.xor_assoc, BitVec.xor_comm (x >>> 1)]
theorem regAt_zero (p c : BitVec 32) (b : BitVec 8) : regAt p c b 0 = c := by
  unfold regAt Crc.steps
  rw [BitVec.xor_assoc]; simp
theorem regAt_last (p c : BitVec 32) (b : BitVec 8) : regAt p c b 8 = Crc.byteReg p c b := by
  unfold regAt Crc.byteReg
  have : b.setWidth 32 >>> 8 = 0#32 := by
    apply BitVec.eq_of_getLsbD_eq
    intro i hi
    simp [BitVec.getLsbD_of_ge]
  rw [this, BitVec.xor_zero]
theorem byte_any (p c : BitVec 32) (b : BitVec 8) (w : World) : Calls Try.prog 20 #[.int .u32 (u p), .int .u32 (u c), .int .u8 (u b)] w fun e w' => e = .returned (.int .u32 (u (Crc.byteReg p c b))) ∧ w = w' := by
  go_enter Try.func20, Try.ntmps20
  go_wp2
  go_loop [1, 7] (fun r i => ∃ k : Nat, k ≤ 8 ∧ i = .int .i64 k ∧ r = .int .u32 (u (regAt p c b k))) (fun _ i => 8 - (intOf i).toNat)
  case atStart => exact ⟨0, by omega, rfl, by rw [regAt_zero]⟩
  case round =>
    obtain ⟨k, hk, rfl, rfl⟩ := hrel
    by_cases hlt : k < 8
    · go_wp2_with fail
      refine (step_any _ _ _ _).mono ?_
      rintro e w' ⟨rfl, rfl⟩
      go_wp2
      go_round
      case rel => exact ⟨k + 1, by omega, by go_num, by rw [regAt_succ]⟩
      case measure => simp [intOf]; omega
    · obtain rfl : k = 8 := by omega
      go_wp2
      go_ret
      exact ⟨ret_u (regAt_last p c b), rfl⟩
end Go.Proofs.Ytfifhmhkmdgplaa
