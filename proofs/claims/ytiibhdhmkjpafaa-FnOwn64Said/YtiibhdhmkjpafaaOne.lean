/- One byte 0 behind ones. -/
import Derived.Test.YtiibhdhmkjpafaaMem
import Derived.Test.YtiibhdhmkjpafaaPlain
namespace Go.Proofs.Ytiibhdhmkjpafaa
open Go.RowKit
theorem bytes_new1 (w : World) (t : TypeId) (b : BitVec 8) : Bytes (w.alloc (.cells #[.int .u8 (u b)] t)) (w.heap.size + 1) (some ⟨w.heap.size, 0, none⟩) [b] := by
  intro _
  refine ⟨_, _, rfl, by omega, fun j hj => ?_⟩
  have hj0 : j = 0 := by simpa using hj
  subst hj0
  exact (Blk.new w t #[.int .u8 (u b)]).cell 0
theorem sum_zero_byte (p : BitVec 64) : Crc.sum p (BitVec.allOnes 64) [0#8] = BitVec.allOnes 64 := by
  unfold Crc.sum Crc.crcReg Crc.byteReg
  simp only [List.foldl_cons, List.foldl_nil, BitVec.setWidth_zero, BitVec.xor_zero]
  rw [show ~~~ (BitVec.allOnes 64) = 0#64 by decide, Crc.steps_zero]; decide
end Go.Proofs.Ytiibhdhmkjpafaa
