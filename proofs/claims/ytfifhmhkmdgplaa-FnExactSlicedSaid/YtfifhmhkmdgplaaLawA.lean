/- Walks of laws over Sliced32: the law's text returns true. -/
import Derived.Test.YtfifhmhkmdgplaaChecked
import Derived.Test.YtfifhmhkmdgplaaImpl
import Derived.WalkKit
import Derived.LoopTactic
namespace Go.Proofs.Ytfifhmhkmdgplaa
open Go.RowKit
theorem law_FnExactSliced (c p : BitVec 32) (a : Option Addr) (n cap : Nat) (l : List (BitVec 8)) (hn : n = l.length) {w : World} (hA : Bytes w w.heap.size a l) (hcap : n ≤ cap) :
    Calls Try.prog 10 #[.int .u32 (u c), .int .u32 (u p), .slice a n cap] w fun e w' => e = .returned (.bool true) ∧ Below w.heap.size w w' := by
  have Hn : Hid (n = l.length) := hn
  clear hn
  by_cases hbig : 2147483647 < n
  · go_enter Try.func10, Try.ntmps10
    go_wp2_with fail
    go_ret
    exact ⟨rfl, Below.refl _ _⟩
  · go_enter Try.func10, Try.ntmps10
    go_wp2_with fail
    refine (sliced_any p c a l n cap _ w Hn.out (by omega) hcap hA (Nat.le_refl _)).mono ?_
    rintro e w1 ⟨rfl, hb⟩
    go_wp2_with fail
    refine (sum_any p c a l n cap _ w1 Hn.out (by omega) (hA.below hb (Nat.le_refl _))).mono ?_
    rintro e w2 ⟨rfl, rfl⟩
    go_wp2
    go_ret
    exact ⟨rfl, hb⟩
end Go.Proofs.Ytfifhmhkmdgplaa
