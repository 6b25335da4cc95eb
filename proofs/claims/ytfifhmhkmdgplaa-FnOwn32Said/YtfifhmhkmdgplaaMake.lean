/- A new table of 32 bits. -/
import Derived.Test.YtfifhmhkmdgplaaChecked
import Derived.Test.YtfifhmhkmdgplaaPop
import Derived.WalkKit
import Derived.Outline
import Derived.LoopTactic
import Derived.KernelRfl
namespace Go.Proofs.Ytfifhmhkmdgplaa
open Go.RowKit
/-- a new table's cells -/
def zeroCells (n : Nat) : Array Value := Array.replicate n (.int .u32 0)
theorem zeroCells_size (n : Nat) : (zeroCells n).size = n := by simp [zeroCells]
theorem zero_table (w : World) : (zeroValue 50).run Try.prog w = .ok (.agg (zeroCells 256)) w := by kernel_rfl
theorem zero_tables (w : World) : (zeroValue 61).run Try.prog w = .ok (.agg (zeroCells 2048)) w := by kernel_rfl
set_option maxRecDepth 100000 in
set_option maxHeartbeats 400000 in
theorem make_any (p : BitVec 32) (w : World) :
    Calls Try.prog 41 #[.int .u32 (u p)] w fun e w' => ∃ g cs, e = .returned (.pointer (some ⟨g, 0, none⟩)) ∧ Blk w' g 50 cs ∧ cs.size = 256 ∧ Tab p 256 cs ∧ Below w.heap.size w w' ∧ w.heap.size ≤ g := by
  have hz := zero_table
  go_enter Try.func41, Try.ntmps41
  go_wp2_with fail
  refine (populate p _ 50 (zeroCells 256) _ (Blk.new _ _ _) (by rw [zeroCells_size]; omega)).mono ?_
  rintro e w' ⟨rfl, cs, hB, hs, hT, hb⟩
  have Hs : Hid (cs.size = (zeroCells 256).size) := hs
  clear hs hz
  go_wp2
  go_ret
  exact ⟨_, cs, rfl, hB, Hs.out.trans (zeroCells_size _), hT, ((Below.refl _ _).alloc (Nat.le_refl _) _).trans hb, Nat.le_refl _⟩
theorem makeTable_any (p : BitVec 32) (w : World) :
    Calls Try.prog 31 #[.int .u32 (u p)] w fun e w' => ∃ g cs, e = .returned (.pointer (some ⟨g, 0, none⟩)) ∧ Blk w' g 50 cs ∧ cs.size = 256 ∧ Tab p 256 cs ∧ Below w.heap.size w w' ∧ w.heap.size ≤ g := by
  go_enter Try.func31, Try.ntmps31
  go_wp2_with fail
  refine (make_any p _).mono ?_
  rintro e w' ⟨g, cs, rfl, hB, hs, hT, hb, hg⟩
  have Hs : Hid (cs.size = 256) := hs
  clear hs
  go_wp2
  go_ret
  exact ⟨g, cs, rfl, hB, Hs.out, hT, hb, hg⟩
theorem table_any (p : BitVec 32) (w : World) :
    Calls Try.prog 19 #[.int .u32 (u p)] w fun e w' => ∃ g cs, e = .returned (.slice (some ⟨g, 0, none⟩) 256 256) ∧ Blk w' g 50 cs ∧ cs.size = 256 ∧ Tab p 256 cs ∧ Below w.heap.size w w' ∧ w.heap.size ≤ g := by
  go_enter Try.func19, Try.ntmps19
  go_wp2_with fail
  refine (makeTable_any p _).mono ?_
  rintro e w' ⟨g, cs, rfl, hB, hs, hT, hb, hg⟩
  have Hs : Hid (cs.size = 256) := hs
  clear hs
  go_wp2
  go_ret
  exact ⟨g, cs, rfl, hB, Hs.out, hT, hb, hg⟩
end Go.Proofs.Ytfifhmhkmdgplaa
