/- Checksum64. -/
import Derived.Test.YtocolnikidfbnaaChecked
import Derived.Test.YtocolnikidfbnaaUpa
import Derived.Test.YtocolnikidfbnaaUpb
import Derived.Test.YtocolnikidfbnaaUpc
import Derived.WalkKit
import Derived.LoopTactic
namespace Go.Proofs.Ytocolnikidfbnaa
open Go.RowKit
theorem updk_any (p c : BitVec 64) (g : Nat) (A : Option Addr) (l : List (BitVec 8)) (n cap B : Nat) (w : World) (hn : n = l.length) (hm : n ≤ 140737488355328) (hcap : n ≤ cap) (hA : Bytes w B A l) (hT : TabAt w g p) (hg : g < w.heap.size) (hB : B ≤ w.heap.size) :
    Calls Try.prog 25 #[.int .u64 (u c), .pointer (some ⟨g, 0, none⟩), .slice A n cap] w (SumPost (Crc.sum p c l) w) := by
  by_cases h : n < 64
  · exact update_small p c g A l n cap B w hn h hA hT
  · obtain ⟨b, off, rfl, _, _⟩ := hA (by omega)
    cases h1 : (p == ecma) with
    | true => exact update_ecma p c h1 g b off l n cap B w hn hm hcap hA hT hg hB
    | false =>
      cases h2 : (p == iso) with
      | true => exact update_iso p c h1 h2 g b off l n cap B w hn hm hcap hA hT hg hB
      | false => exact update_other p c h1 h2 g b off l n cap B w hn hm hcap hA hT hg hB
theorem pubChecksum_any (p : BitVec 64) (g : Nat) (A : Option Addr) (l : List (BitVec 8)) (n cap B : Nat) (w : World) (hn : n = l.length) (hm : n ≤ 140737488355328) (hcap : n ≤ cap) (hA : Bytes w B A l) (hT : TabAt w g p) (hg : g < w.heap.size) (hB : B ≤ w.heap.size) :
    Calls Try.prog 17 #[.slice A n cap, .pointer (some ⟨g, 0, none⟩)] w (SumPost (Crc.sum p 0#64 l) w) := by
  have Hn : Hid (n = l.length) := hn
  clear hn
  go_enter Try.func17, Try.ntmps17
  go_wp2_with fail
  rw [zero64_u]
  refine (updk_any p 0#64 g A l n cap B _ Hn.out hm hcap hA hT hg hB).mono ?_
  rintro e w1 ⟨rfl, hb⟩
  go_wp2_with fail
  go_ret
  exact ⟨rfl, hb⟩
theorem checksum64_any (p : BitVec 64) (A : Option Addr) (l : List (BitVec 8)) (n cap B : Nat) (w : World) (hn : n = l.length) (hm : n ≤ 140737488355328) (hcap : n ≤ cap) (hA : Bytes w B A l) (hB : B ≤ w.heap.size) :
    Calls Try.prog 11 #[.int .u64 (u p), .slice A n cap] w (SumPost (Crc.sum p 0#64 l) w) := by
  have Hn : Hid (n = l.length) := hn
  clear hn
  go_enter Try.func11, Try.ntmps11
  go_wp2_with fail
  refine (mt_any p _).mono ?_
  rintro e w1 ⟨g, rfl, hT, hlt, hg, hb⟩
  go_wp2_with fail
  refine (pubChecksum_any p g A l n cap B w1 Hn.out hm hcap (hA.below hb hB) hT hlt (Nat.le_trans hB hb.size)).mono ?_
  rintro e w2 ⟨rfl, hb2⟩
  go_wp2_with fail
  go_ret
  exact ⟨rfl, hb.trans (hb2.mono hb.size)⟩
end Go.Proofs.Ytocolnikidfbnaa
