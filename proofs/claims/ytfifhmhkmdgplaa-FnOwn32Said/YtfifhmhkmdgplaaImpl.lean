/- What the thin package's sums of 32 bits return: Sliced32, UpdateIEEE, ChecksumIEEE. -/
import Derived.Test.YtfifhmhkmdgplaaChecked
import Derived.Test.YtfifhmhkmdgplaaSlu
import Derived.WalkKit
import Derived.LoopTactic
namespace Go.Proofs.Ytfifhmhkmdgplaa
open Go.RowKit
theorem slu_any (p c : BitVec 32) (g : Nat) (A : Option Addr) (l : List (BitVec 8)) (n cap B : Nat) (w : World) (hn : n = l.length) (hm : n ≤ 140737488355328) (hcap : n ≤ cap) (hA : Bytes w B A l) (hT : TabCells w g p) :
    Calls Try.prog 43 #[.int .u32 (u c), .pointer (some ⟨g, 0, none⟩), .slice A n cap] w fun e w' => e = .returned (.int .u32 (u (Crc.sum p c l))) ∧ ∃ k, w' = w.drewN k := by
  by_cases h : n < 16
  · exact slicing_small p c g A l n cap B w hn h hA hT
  · obtain ⟨b, off, rfl, _, _⟩ := hA (by omega)
    exact slicing_big p c g b off l n cap B w hn hm (by omega) hcap hA hT
theorem tabCells_of {w : World} {g : Nat} {t : TypeId} {cs : Array Value} {p : BitVec 32} (hB : Blk w g t cs) (hT : Tabs p 256 1 cs) : TabCells w g p := by
  intro k n hk hn
  rw [hB.cell]
  exact hT k n hk hn (by omega)
/-- the contract of a function that returns a sum: the number, and old memory as it was -/
def SumsTo (f : Nat) (args : Array Value) (w : World) (r : BitVec 32) : Prop :=
  Calls Try.prog f args w fun e w' => e = .returned (.int .u32 (u r)) ∧ Below w.heap.size w w'
theorem slicingUpdate_any (p c : BitVec 32) (A : Option Addr) (l : List (BitVec 8)) (n cap B : Nat) (w : World) (hn : n = l.length) (hm : n ≤ 140737488355328) (hcap : n ≤ cap) (hA : Bytes w B A l) (hB : B ≤ w.heap.size) :
    SumsTo 34 #[.int .u32 (u c), .int .u32 (u p), .slice A n cap] w (Crc.sum p c l) := by
  unfold SumsTo
  have Hn : Hid (n = l.length) := hn
  clear hn
  go_enter Try.func34, Try.ntmps34
  go_wp2_with fail
  refine (slicing_any p _).mono ?_
  rintro e w1 ⟨g, cs, rfl, hBl, hs, hT, hb, hg⟩
  clear hs
  go_wp2_with fail
  refine (slu_any p c g A l n cap B w1 Hn.out hm hcap (hA.below hb hB) (tabCells_of hBl hT)).mono ?_
  rintro e w2 ⟨rfl, k, rfl⟩
  go_wp2
  go_ret
  exact ⟨rfl, hb.trans (below_drewN _ _ _)⟩
theorem sliced_any (p c : BitVec 32) (A : Option Addr) (l : List (BitVec 8)) (n cap B : Nat) (w : World) (hn : n = l.length) (hm : n ≤ 140737488355328) (hcap : n ≤ cap) (hA : Bytes w B A l) (hB : B ≤ w.heap.size) :
    SumsTo 23 #[.int .u32 (u c), .int .u32 (u p), .slice A n cap] w (Crc.sum p c l) := by
  unfold SumsTo
  have Hn : Hid (n = l.length) := hn
  clear hn
  go_enter Try.func23, Try.ntmps23
  go_wp2_with fail
  refine (slicingUpdate_any p c A l n cap B _ Hn.out hm hcap hA hB).mono ?_
  rintro e w1 ⟨rfl, hb⟩
  go_wp2
  go_ret
  exact ⟨rfl, hb⟩
/-- the polynomial IEEE -/
def ieee : BitVec 32 := 3988292384#32
theorem ieee_u : (3988292384 : Int) = u ieee := rfl
theorem pubIEEE_any (c : BitVec 32) (A : Option Addr) (l : List (BitVec 8)) (n cap B : Nat) (w : World) (hn : n = l.length) (hm : n ≤ 140737488355328) (hcap : n ≤ cap) (hA : Bytes w B A l) (hB : B ≤ w.heap.size) :
    SumsTo 38 #[.int .u32 (u c), .slice A n cap] w (Crc.sum ieee c l) := by
  unfold SumsTo
  have Hn : Hid (n = l.length) := hn
  clear hn
  go_enter Try.func38, Try.ntmps38
  go_wp2_with fail
  rw [ieee_u]
  refine (slicing_any ieee _).mono ?_
  rintro e w1 ⟨g, cs, rfl, hBl, hs, hT, hb, hg⟩
  clear hs
  go_wp2_with fail
  refine (slu_any ieee c g A l n cap B w1 Hn.out hm hcap (hA.below hb hB) (tabCells_of hBl hT)).mono ?_
  rintro e w2 ⟨rfl, k, rfl⟩
  go_wp2
  go_ret
  exact ⟨rfl, hb.trans (below_drewN _ _ _)⟩
theorem updateIEEE_any (c : BitVec 32) (A : Option Addr) (l : List (BitVec 8)) (n cap B : Nat) (w : World) (hn : n = l.length) (hm : n ≤ 140737488355328) (hcap : n ≤ cap) (hA : Bytes w B A l) (hB : B ≤ w.heap.size) :
    SumsTo 28 #[.int .u32 (u c), .slice A n cap] w (Crc.sum ieee c l) := by
  unfold SumsTo
  have Hn : Hid (n = l.length) := hn
  clear hn
  go_enter Try.func28, Try.ntmps28
  go_wp2_with fail
  refine (pubIEEE_any c A l n cap B _ Hn.out hm hcap hA hB).mono ?_
  rintro e w1 ⟨rfl, hb⟩
  go_wp2
  go_ret
  exact ⟨rfl, hb⟩
theorem pubChecksum_any (A : Option Addr) (l : List (BitVec 8)) (n cap B : Nat) (w : World) (hn : n = l.length) (hm : n ≤ 140737488355328) (hcap : n ≤ cap) (hA : Bytes w B A l) (hB : B ≤ w.heap.size) :
    SumsTo 39 #[.slice A n cap] w (Crc.sum ieee 0#32 l) := by
  unfold SumsTo
  have Hn : Hid (n = l.length) := hn
  clear hn
  go_enter Try.func39, Try.ntmps39
  go_wp2_with fail
  rw [zero_u]
  refine (pubIEEE_any 0#32 A l n cap B _ Hn.out hm hcap hA hB).mono ?_
  rintro e w1 ⟨rfl, hb⟩
  go_wp2
  go_ret
  exact ⟨rfl, hb⟩
theorem checksumIEEE_any (A : Option Addr) (l : List (BitVec 8)) (n cap B : Nat) (w : World) (hn : n = l.length) (hm : n ≤ 140737488355328) (hcap : n ≤ cap) (hA : Bytes w B A l) (hB : B ≤ w.heap.size) :
    SumsTo 29 #[.slice A n cap] w (Crc.sum ieee 0#32 l) := by
  unfold SumsTo
  have Hn : Hid (n = l.length) := hn
  clear hn
  go_enter Try.func29, Try.ntmps29
  go_wp2_with fail
  refine (pubChecksum_any A l n cap B _ Hn.out hm hcap hA hB).mono ?_
  rintro e w1 ⟨rfl, hb⟩
  go_wp2
  go_ret
  exact ⟨rfl, hb⟩
end Go.Proofs.Ytfifhmhkmdgplaa
