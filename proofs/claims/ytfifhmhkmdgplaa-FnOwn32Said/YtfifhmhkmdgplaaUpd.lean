/- A sum by a table, byte by byte: what simpleUpdate returns. -/
import Derived.Test.YtfifhmhkmdgplaaChecked
import Derived.Test.YtfifhmhkmdgplaaTabs
import Derived.Test.YtfifhmhkmdgplaaSum
import Derived.WalkKit
import Derived.Outline
import Derived.LoopTactic
namespace Go.Proofs.Ytfifhmhkmdgplaa
open Go.RowKit
/-- a register behind a byte, by a table -/
def upd (tf : Nat → BitVec 32) (c : BitVec 32) (b : BitVec 8) : BitVec 32 := tf (u (c.setWidth 8 ^^^ b)).toNat ^^^ c >>> 8
def regT (tf : Nat → BitVec 32) (c : BitVec 32) (l : List (BitVec 8)) (k : Nat) : BitVec 32 := (l.take k).foldl (upd tf) (~~~ c)
theorem regT_succ (tf : Nat → BitVec 32) (c : BitVec 32) (l : List (BitVec 8)) (k : Nat) (h : k < l.length) : tf (u ((regT tf c l k).setWidth 8 ^^^ nth l k)).toNat ^^^ (regT tf c l k) >>> 8 = regT tf c l (k + 1) := by
  unfold regT
  rw [take_succ_nth l k h, List.foldl_append]; rfl
/-- a sum by a table -/
def sumT (tf : Nat → BitVec 32) (c : BitVec 32) (l : List (BitVec 8)) : BitVec 32 := ~~~ regT tf c l l.length
theorem byte_lt (x : BitVec 8) : u x < 256 := u_lt x
theorem byte_lt' (x : BitVec 8) : (u x).toNat < 256 := by have := byte_lt x; omega
set_option maxRecDepth 100000 in
set_option maxHeartbeats 400000 in
theorem update_any (tf : Nat → BitVec 32) (c : BitVec 32) (g : Nat) (A : Option Addr) (l : List (BitVec 8)) (n cap B : Nat) (w : World) (hn : n = l.length) (hm : n ≤ 140737488355328) (hA : Bytes w B A l)
    (hT : ∀ i, i < 256 → w.cell? ⟨g, i, none⟩ = some (.int .u32 (u (tf i)))) :
    Calls Try.prog 40 #[.int .u32 (u c), .pointer (some ⟨g, 0, none⟩), .slice A n cap] w fun e w' => e = .returned (.int .u32 (u (sumT tf c l))) ∧ w = w' := by
  have Hn : Hid (n = l.length) := hn
  have HT : Hid (∀ i, i < 256 → w.cell? ⟨g, i, none⟩ = some (.int .u32 (u (tf i)))) := hT
  clear hn hT
  go_enter Try.func40, Try.ntmps40
  go_wp2
  go_loop [0, 8, 13] (fun r _ i => ∃ k : Nat, k ≤ n ∧ i = .int .i64 k ∧ r = .int .u32 (u (regT tf c l k))) (fun _ _ i => n - (intOf i).toNat)
  case atStart => exact ⟨0, by omega, rfl, rfl⟩
  case round =>
    obtain ⟨k, hk, rfl, rfl⟩ := hrel
    by_cases hlt : k < n
    · obtain ⟨b, off, rfl, hb, hc⟩ := hA (by rw [← Hn.out]; omega)
      have hck := hc k (by rw [← Hn.out]; exact hlt)
      have hlo := u_nonneg ((regT tf c l k).setWidth 8 ^^^ nth l k)
      have hhi := byte_lt ((regT tf c l k).setWidth 8 ^^^ nth l k)
      have hct := HT.out _ (byte_lt' ((regT tf c l k).setWidth 8 ^^^ nth l k))
      clear hc hA
      go_wp2
      go_round
      case rel => exact ⟨k + 1, by omega, by go_num, by rw [regT_succ tf c l k (by rw [← Hn.out]; exact hlt)]⟩
      case measure => simp [intOf]; omega
    · obtain rfl : k = n := by omega
      go_wp2
      go_ret
      exact ⟨ret_u (by unfold sumT; rw [← Hn.out]), rfl⟩
end Go.Proofs.Ytfifhmhkmdgplaa
