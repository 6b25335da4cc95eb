/- The law on the remainder, 32 bits. -/
import Derived.Test.YtfifhmhkmdgplaaChecked
import Derived.Test.YtfifhmhkmdgplaaLawB
import Derived.Test.YtfifhmhkmdgplaaRemw
import Derived.WalkKit
import Derived.LoopTactic
namespace Go.Proofs.Ytfifhmhkmdgplaa
open Go.RowKit
set_option maxRecDepth 100000 in
theorem law_FnRemainder32 (p : BitVec 32) (a : Option Addr) (n cap : Nat) (l : List (BitVec 8)) (hn : n = l.length) {w : World} (hA : Bytes w w.heap.size a l) (hcap : n ≤ cap) :
    Calls Try.prog 15 #[.int .u32 (u p), .slice a n cap] w fun e w' => e = .returned (.bool true) ∧ Below w.heap.size w w' := by
  have Hn : Hid (n = l.length) := hn
  clear hn
  by_cases hbig : 2147483647 < n
  · go_enter Try.func15, Try.ntmps15
    go_wp2_with fail
    go_ret
    exact ⟨rfl, Below.refl _ _⟩
  go_enter Try.func15, Try.ntmps15
  go_wp2_with fail
  rw [zero_u]
  refine (sliced_any p 0#32 a l n cap _ w Hn.out (by omega) hcap hA (Nat.le_refl _)).mono ?_
  rintro e w1 ⟨rfl, hb1⟩
  go_wp2_with fail
  rw [to64_32]
  refine (remainder_any p a l n cap Hn.out (by omega) w1 _ (hA.below hb1 (Nat.le_refl _)) hb1.size).mono ?_
  rintro e w2 ⟨rfl, hb2⟩
  go_wp2_with fail
  go_ret
  exact ⟨ret_b (by rw [to64_32, u_beq, beq_self_eq_true]), hb1.trans (hb2.mono hb1.size)⟩
end Go.Proofs.Ytfifhmhkmdgplaa
