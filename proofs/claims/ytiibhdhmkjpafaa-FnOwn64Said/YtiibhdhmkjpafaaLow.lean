/- The bytes of a number, the lowest first: what Low32 returns. -/
import Derived.Test.YtiibhdhmkjpafaaChecked
import Derived.Test.YtiibhdhmkjpafaaBy
import Derived.Test.YtiibhdhmkjpafaaPlain
import Derived.WalkKit
import Derived.LoopTactic
namespace Go.Proofs.Ytiibhdhmkjpafaa
open Go.RowKit
/-- four bytes of a number -/
def low4 (n : BitVec 32) : List (BitVec 8) := [n.setWidth 8, (n >>> 8).setWidth 8, (n >>> 16).setWidth 8, (n >>> 24).setWidth 8]
theorem bytes_new (w : World) (t : TypeId) (l : List (BitVec 8)) : Bytes (w.alloc (.cells (l.map byteV).toArray t)) (w.heap.size + 1) (some ⟨w.heap.size, 0, none⟩) l := by
  intro _
  refine ⟨_, _, rfl, by omega, fun j hj => ?_⟩
  rw [Nat.zero_add, (Blk.new w t _).cell j, List.getElem?_toArray]
  exact nth_some hj
/-- what Low32 leaves -/
def LowPost (l : List (BitVec 8)) (n : Nat) (w : World) (e : Ending) (w' : World) : Prop := ∃ A c, e = .returned (.slice A n c) ∧ n ≤ c ∧ w'.ownsRow w.heap.size 5 1 (.slice A n c) n (l.map byteV) ∧ Below w.heap.size w w'
theorem low32_any (n : BitVec 32) (w : World) : Calls Try.prog 15 #[.int .u32 (u n)] w (LowPost (low4 n) 4 w) := by
  go_enter Try.func15, Try.ntmps15
  go_wp2_with fail
  go_ret
  exact ⟨some ⟨w.heap.size, 0, none⟩, 4, rfl, by omega, World.ownsRow_lit w ((low4 n).map byteV).toArray 4 (Nat.le_refl _) (by unfold maxLen; omega) rfl, (Below.refl _ _).alloc (Nat.le_refl _) _⟩
end Go.Proofs.Ytiibhdhmkjpafaa
