/- The digest: Write and Sum64. -/
import Derived.Test.YtocolnikidfbnaaChecked
import Derived.Test.YtocolnikidfbnaaUck
import Derived.WalkKit
import Derived.LoopTactic
import Derived.Deep.RegionWith
namespace Go.Proofs.Ytocolnikidfbnaa
open Go.RowKit
/-- a digest at block D: its sum c, its table (block g) that of the polynomial p -/
def Dig (w : World) (D g : Nat) (p c : BitVec 64) : Prop := Blk w D 51 #[.int .u64 (u c), .pointer (some ⟨g, 0, none⟩)] ∧ TabAt w g p ∧ g < D
theorem Dig.c0 {w : World} {D g : Nat} {p c : BitVec 64} (h : Dig w D g p c) : w.cell? ⟨D, 0, none⟩ = some (.int .u64 (u c)) := (h.1.cell 0).trans rfl
theorem Dig.c1 {w : World} {D g : Nat} {p c : BitVec 64} (h : Dig w D g p c) : w.cell? ⟨D, 1, none⟩ = some (.pointer (some ⟨g, 0, none⟩)) := (h.1.cell 1).trans rfl
theorem Dig.lt {w : World} {D g : Nat} {p c : BitVec 64} (h : Dig w D g p c) : D < w.heap.size := h.1.lt
theorem Dig.below {w w' : World} {D g B : Nat} {p c : BitVec 64} (h : Dig w D g p c) (hb : Below B w w') (hD : D < B) : Dig w' D g p c := ⟨h.1.below hb hD, h.2.1.below hb (Nat.lt_trans h.2.2 hD), h.2.2⟩
theorem Dig.put {w : World} {D g : Nat} {p c : BitVec 64} (h : Dig w D g p c) (c' : BitVec 64) : Dig (w.setCell ⟨D, 0, none⟩ (.int .u64 (u c'))) D g p c' :=
  ⟨(h.1.put 0 (.int .u64 (u c'))), h.2.1.below ((Below.refl D w).setCell (p := ⟨D, 0, none⟩) (Nat.le_refl _) _) h.2.2, h.2.2⟩
theorem Dig.drew {w : World} {D g : Nat} {p c : BitVec 64} (h : Dig w D g p c) : Dig w.drew D g p c := h
theorem Dig.new {w : World} {g : Nat} {p : BitVec 64} (hT : TabAt w g p) (hg : g < w.heap.size) (c : BitVec 64) : Dig (w.alloc (.cells #[.int .u64 (u c), .pointer (some ⟨g, 0, none⟩)] 51)) w.heap.size g p c :=
  ⟨Blk.new _ _ _, hT.below ((Below.refl w.heap.size w).alloc (Nat.le_refl _) _) hg, hg⟩
/-- what Write leaves -/
def WrPost (p c : BitVec 64) (D g n : Nat) (w : World) (e : Ending) (w' : World) : Prop := e = .returned (.tuple #[.int .i64 n, Value.nilIface]) ∧ Dig w' D g p c ∧ Below D w w'
/-- update, in whatever world the region makes the call -/
theorem upd_in (p c : BitVec 64) (D g : Nat) (A : Option Addr) (l : List (BitVec 8)) (n cap B : Nat) (w : World) (W : World) (hn : n = l.length) (hm : n ≤ 140737488355328) (hcap : n ≤ cap) (hA : Bytes w B A l) (hB : B ≤ D) (hD : Dig w D g p c) (hW : W = w.drew) :
    Calls Try.prog 25 #[.int .u64 (u c), .pointer (some ⟨g, 0, none⟩), .slice A n cap] W fun e w' => e = .returned (.int .u64 (u (Crc.sum p c l))) ∧ Hid (Dig w' D g p c) ∧ Hid (Below D w w') ∧ (∃ v, w'.cell? ⟨D, 0, none⟩ = some v) ∧ w'.frozen? ⟨D, 0, none⟩ = false := by
  subst hW
  have hlt := hD.lt
  refine (updk_any p c g A l n cap B w.drew hn hm hcap hA hD.2.1 (Nat.lt_trans hD.2.2 hlt) (by show B ≤ w.heap.size; omega)).mono ?_
  rintro e w1 ⟨rfl, hb⟩
  have hb1 : Below w.heap.size w w1 := ((Below.refl w.heap.size w).drew).trans hb
  have h1 := hD.below hb1 hlt
  exact ⟨rfl, h1, hb1.mono (Nat.le_of_lt hlt), ⟨_, h1.c0⟩, h1.1.free 0⟩
set_option maxRecDepth 100000 in
set_option maxHeartbeats 1000000 in
theorem write_any (p c : BitVec 64) (D g : Nat) (A : Option Addr) (l : List (BitVec 8)) (n cap B : Nat) (w : World) (hn : n = l.length) (hm : n ≤ 140737488355328) (hcap : n ≤ cap) (hA : Bytes w B A l) (hB : B ≤ D) (hD : Dig w D g p c) :
    Calls Try.prog 20 #[.pointer (some ⟨D, 0, none⟩), .slice A n cap] w (WrPost p (Crc.sum p c l) D g n w) := by
  have h0 := hD.c0
  have h1 := hD.c1
  have hf := hD.1.free 0
  have Hc : ∀ W, Hid (W = w.drew → Calls Try.prog 25 #[.int .u64 (u c), .pointer (some ⟨g, 0, none⟩), .slice A n cap] W fun e w' => e = .returned (.int .u64 (u (Crc.sum p c l))) ∧ Hid (Dig w' D g p c) ∧ Hid (Below D w w') ∧ (∃ v, w'.cell? ⟨D, 0, none⟩ = some v) ∧ w'.frozen? ⟨D, 0, none⟩ = false) := fun W hW => upd_in p c D g A l n cap B w W hn hm hcap hA hB hD hW
  clear hn hA hD
  go_enter Try.func20, Try.ntmps20
  go_wp2_with fail
  go_region_with (go_at_call 25; refine ((Hc _).out ?_).mono ?_; (· rfl); rintro e w1 ⟨rfl, H1, H2, ⟨v, hv⟩, hf1⟩; clear h0 h1 hf)
  all_goals (go_wp2_with fail; go_ret2; exact ⟨rfl, H1.out.put _, H2.out.setCell (p := ⟨D, 0, none⟩) (Nat.le_refl _) _⟩)
theorem sum64_any (p c : BitVec 64) (D g : Nat) (w : World) (hD : Dig w D g p c) :
    Calls Try.prog 27 #[.pointer (some ⟨D, 0, none⟩)] w fun e w' => e = .returned (.int .u64 (u c)) ∧ w = w' := by
  have h0 := hD.c0
  clear hD
  go_enter Try.func27, Try.ntmps27
  go_wp2_with fail
  go_ret
  exact ⟨rfl, rfl⟩
end Go.Proofs.Ytocolnikidfbnaa
