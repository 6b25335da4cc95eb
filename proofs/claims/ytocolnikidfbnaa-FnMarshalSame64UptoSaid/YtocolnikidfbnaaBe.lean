/- Eight bytes of a number, the highest first. -/
import Derived.Test.YtocolnikidfbnaaChecked
import Derived.Test.YtocolnikidfbnaaBy
import Derived.Test.YtocolnikidfbnaaUp
import Derived.WalkKit
import Derived.LoopTactic
namespace Go.Proofs.Ytocolnikidfbnaa
open Go.RowKit
def be8 (x : BitVec 64) : List (BitVec 8) := [(x >>> 56).setWidth 8, (x >>> 48).setWidth 8, (x >>> 40).setWidth 8, (x >>> 32).setWidth 8, (x >>> 24).setWidth 8, (x >>> 16).setWidth 8, (x >>> 8).setWidth 8, x.setWidth 8]
/-- the block that be8 makes -/
def be8Cells (x : BitVec 64) : Obj := .cells ((be8 x).map byteV).toArray 5
theorem beApp_run (x : BitVec 64) (A : Option Addr) (n c : Nat) (w : World) (A' : Option Addr) (n' c' : Nat) (w' : World)
    (hr : (Builtin.append_ #[25, 25] 25 #[.slice A n c, .slice (some ⟨w.heap.size, 0, none⟩) 8 8]).run Try.prog (w.alloc (be8Cells x)) = .ok (.slice A' n' c') w') :
    Calls Try.prog 35 #[.slice A n c, .int .u64 (u x)] w fun e w'' => e = .returned (.slice A' n' c') ∧ w'' = w' := by
  unfold be8Cells be8 at hr
  go_enter Try.func35, Try.ntmps35
  go_wp2_with (at_builtin; refine wpList_run_append rfl (.tmp 5) (.tmp 29) _ _ rfl rfl rfl hr ?_)
  go_ret
  exact ⟨rfl, rfl⟩
end Go.Proofs.Ytocolnikidfbnaa
