/- The law on the remainder, 64 bits. -/
import Derived.Test.YtiibhdhmkjpafaaChecked
import Derived.Test.YtiibhdhmkjpafaaUi
import Derived.Test.YtiibhdhmkjpafaaRemw
import Derived.WalkKit
import Derived.LoopTactic
namespace Go.Proofs.Ytiibhdhmkjpafaa
open Go.RowKit
set_option maxRecDepth 100000 in
theorem law_FnRemainder64 (p : BitVec 64) (a : Option Addr) (n cap : Nat) (l : List (BitVec 8)) (hn : n = l.length) {w : World} (hA : Bytes w w.heap.size a l) (hcap : n ≤ cap) :
    Calls Try.prog 7 #[.int .u64 (u p), .slice a n cap] w fun e w' => e = .returned (.bool true) ∧ Below w.heap.size w w' := by
  have Hn : Hid (n = l.length) := hn
  clear hn
  by_cases hbig : 2147483647 < n
  · go_enter Try.func7, Try.ntmps7
    go_wp2_with fail
    go_ret
    exact ⟨rfl, Below.refl _ _⟩
  go_enter Try.func7, Try.ntmps7
  go_wp2_with fail
  rw [zero64_u]
  refine (update64_any p 0#64 a l n cap _ w Hn.out (by omega) hcap hA (Nat.le_refl _)).mono ?_
  rintro e w1 ⟨rfl, hb1⟩
  go_wp2_with fail
  have hrem := remainder_any p a l n cap Hn.out (by omega) w1 _ (hA.below hb1 (Nat.le_refl _)) hb1.size
  rw [BitVec.setWidth_eq, BitVec.setWidth_eq] at hrem
  refine hrem.mono ?_
  clear hrem
  rintro e w2 ⟨rfl, hb2⟩
  go_wp2_with fail
  go_ret
  exact ⟨rfl, hb1.trans (hb2.mono hb1.size)⟩
end Go.Proofs.Ytiibhdhmkjpafaa
