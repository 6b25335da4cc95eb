/- Four bytes as a number: what leUint32 returns. -/
import Derived.Test.YtfifhmhkmdgplaaChecked
import Derived.Test.YtfifhmhkmdgplaaUpd
import Derived.WalkKit
import Derived.Outline
import Derived.LoopTactic
import Derived.Deep.QuietTactic
import Derived.BigQuiet
namespace Go.Proofs.Ytfifhmhkmdgplaa
open Go.RowKit
set_option maxRecDepth 100000 in
set_option maxHeartbeats 400000 in
theorem le32_any (A : Option Addr) (l : List (BitVec 8)) (n cap B : Nat) (w : World) (hn : n = l.length) (h4 : 4 ≤ n) (hA : Bytes w B A l) :
    Calls Try.prog 45 #[.slice A n cap] w fun e w' => e = .returned (.int .u32 (u (Crc.le 32 [nth l 0, nth l 1, nth l 2, nth l 3]))) ∧ ∃ k, w' = w.drewN k := by
  obtain ⟨b, off, rfl, hb, hc⟩ := hA (by omega)
  have hc0 := hc 0 (by omega)
  rw [Nat.add_zero] at hc0
  have i0 : (0 : Int) < (n : Int) := by omega
  have i1 : (1 : Int) < (n : Int) := by omega
  have i2 : (2 : Int) < (n : Int) := by omega
  have i3 : (3 : Int) < (n : Int) := by omega
  have hc1 := hc 1 (by omega)
  have hc2 := hc 2 (by omega)
  have hc3 := hc 3 (by omega)
  clear hc hA hn
  go_enter Try.func45, Try.ntmps45
  go_wp2_with fail
  go_quiet (fail)
  go_wp2
  go_ret
  exact ⟨ret_u (Crc.le_four _ _ _ _).symm, _, rfl⟩
end Go.Proofs.Ytfifhmhkmdgplaa
