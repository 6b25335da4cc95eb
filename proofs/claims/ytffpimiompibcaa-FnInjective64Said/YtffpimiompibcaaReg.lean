/- The reference's register, bit by bit and behind a byte: what Step and Byte return. -/
import Derived.Test.YtffpimiompibcaaChecked
import Derived.Test.YtffpimiompibcaaBase
import Derived.Test.YtffpimiompibcaaPlain
import Derived.WalkKit
import Derived.Outline
import Derived.LoopTactic
namespace Go.Proofs.Ytffpimiompibcaa
open Go.RowKit
/-- a register behind a bit, as the reference types it -/
def stepx (p c b : BitVec 64) : BitVec 64 := c >>> 1 ^^^ (if odd (c ^^^ b) then p else 0#64)
theorem stepx_t (p c b : BitVec 64) (h : odd (c ^^^ b) = true) : stepx p c b = c >>> 1 ^^^ p := by simp only [stepx, h]; rfl
theorem stepx_f (p c b : BitVec 64) (h : odd (c ^^^ b) = false) : stepx p c b = c >>> 1 := by simp [stepx, h]
theorem step_any (p c b : BitVec 64) (w : World) : Calls Try.prog 21 #[.int .u64 (u p), .int .u64 (u c), .int .u64 (u b)] w fun e w' => e = .returned (.int .u64 (u (stepx p c b))) ∧ w = w' := by
  cases h : odd (c ^^^ b) with
  | true =>
    rw [stepx_t p c b h]
    go_enter Try.func21, Try.ntmps21
    go_wp2
    go_ret
    exact ⟨rfl, rfl⟩
  | false =>
    rw [stepx_f p c b h]
    go_enter Try.func21, Try.ntmps21
    go_wp2
    go_ret
    exact ⟨rfl, rfl⟩
/-- the register in the midst of a byte -/
def regAt (p c : BitVec 64) (b : BitVec 8) (k : Nat) : BitVec 64 := Crc.steps p k (c ^^^ b.setWidth 64) ^^^ (b.setWidth 64 >>> k)
theorem regAt_succ (p c : BitVec 64) (b : BitVec 8) (k : Nat) : stepx p (regAt p c b k) (b.setWidth 64 >>> k &&& 1#64) = regAt p c b (k + 1) := by
  unfold regAt stepx
  rw [Crc.steps_succ']
  generalize Crc.steps p k (c ^^^ b.setWidth 64) = s
  rw [show b.setWidth 64 >>> (k + 1) = (b.setWidth 64 >>> k) >>> 1 from BitVec.shiftRight_add _ _ _]
  generalize b.setWidth 64 >>> k = x
  have e2 : odd (s ^^^ x ^^^ (x &&& 1#64)) = s.getLsbD 0 := by
    unfold odd
    simp
  rw [e2, BitVec.ushiftRight_xor_distrib]
  unfold Crc.step
  rw [BitVec.xor_assoc, BitVec.xor_assoc, BitVec.xor_comm (x >>> 1)]
theorem regAt_zero (p c : BitVec 64) (b : BitVec 8) : regAt p c b 0 = c := by
  unfold regAt Crc.steps
  rw [BitVec.xor_assoc]; simp
theorem regAt_last (p c : BitVec 64) (b : BitVec 8) : regAt p c b 8 = Crc.byteReg p c b := by
  unfold regAt Crc.byteReg
  have : b.setWidth 64 >>> 8 = 0#64 := by
    apply BitVec.eq_of_getLsbD_eq
    intro i hi
    simp [BitVec.getLsbD_of_ge]
  rw [this, BitVec.xor_zero]
theorem byte_any (p c : BitVec 64) (b : BitVec 8) (w : World) : Calls Try.prog 13 #[.int .u64 (u p), .int .u64 (u c), .int .u8 (u b)] w fun e w' => e = .returned (.int .u64 (u (Crc.byteReg p c b))) ∧ w = w' := by
  go_enter Try.func13, Try.ntmps13
  go_wp2
  go_loop [1, 7] (fun r i => ∃ k : Nat, k ≤ 8 ∧ i = .int .i64 k ∧ r = .int .u64 (u (regAt p c b k))) (fun _ i => 8 - (intOf i).toNat)
  case atStart => exact ⟨0, by omega, rfl, by rw [regAt_zero]⟩
  case round =>
    obtain ⟨k, hk, rfl, rfl⟩ := hrel
    by_cases hlt : k < 8
    · go_wp2_with fail
      refine (step_any _ _ _ _).mono ?_
      rintro e w' ⟨rfl, rfl⟩
      go_wp2
      go_round
      case rel => exact ⟨k + 1, by omega, by go_num, by rw [regAt_succ]⟩
      case measure => simp [intOf]; omega
    · obtain rfl : k = 8 := by omega
      go_wp2
      go_ret
      exact ⟨ret_u (regAt_last p c b), rfl⟩
end Go.Proofs.Ytffpimiompibcaa
