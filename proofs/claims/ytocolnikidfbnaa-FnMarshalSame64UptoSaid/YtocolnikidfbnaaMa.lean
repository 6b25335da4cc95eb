/- Marshal: the pieces written to a digest, and its state; the thin package's Marshal64. -/
import Derived.Test.YtocolnikidfbnaaChecked
import Derived.Test.YtocolnikidfbnaaMar
import Derived.Test.YtocolnikidfbnaaPc
import Derived.WalkKit
import Derived.LoopTactic
import Derived.RegionTactic
namespace Go.Proofs.Ytocolnikidfbnaa
open Go.RowKit
/-- k pieces, one behind the other -/
def cat (l : Nat → List (BitVec 8)) : Nat → List (BitVec 8)
  | 0 => []
  | k + 1 => cat l k ++ l k
theorem dig0 {w : World} {g : Nat} {p : BitVec 64} (hT : TabAt w g p) (hg : g < w.heap.size) : Dig (w.alloc (.cells #[.int .u64 0, .pointer (some ⟨g, 0, none⟩)] 51)) w.heap.size g p (Crc.sum p 0#64 []) := by
  rw [sum_nil]; exact Dig.new hT hg 0#64
set_option maxRecDepth 100000 in
set_option maxHeartbeats 1000000 in
theorem marshal_any (p : BitVec 64) (g : Nat) (P : Option Addr) (m cap B : Nat) (A : Nat → Option Addr) (C : Nat → Nat) (l : Nat → List (BitVec 8)) (w : World) (hP : Pieces w B P m A C l) (hB : B ≤ w.heap.size) (hf : fits m l) (hT : TabAt w g p) (hg : g < w.heap.size) :
    Calls Try.prog 15 #[.pointer (some ⟨g, 0, none⟩), .slice P m cap] w (MbPost (state p (Crc.sum p 0#64 (cat l m))) w) := by
  obtain ⟨D, HD⟩ : ∃ D, Hid (D = w.heap.size) := ⟨_, rfl⟩
  have hd0 := dig0 hT hg
  have hb0 : Below w.heap.size w (w.alloc (.cells #[.int .u64 0, .pointer (some ⟨g, 0, none⟩)] 51)) := (Below.refl _ _).alloc (Nat.le_refl _) _
  rw [← HD.out] at hd0
  have hmm : m ≤ 2147483647 := hf.1
  have Hf : Hid (fits m l) := hf
  have hBD : B ≤ D := by rw [HD.out]; exact hB
  have hDw : w.heap.size ≤ D := by rw [HD.out]; exact Nat.le_refl _
  clear hT hf
  go_enter Try.func15, Try.ntmps15
  go_wp2_with fail
  rw [← HD.out]
  go_loopw [8, 14] (fun _ i wr => ∃ k : Nat, k ≤ m ∧ i = .int .i64 k ∧ Dig wr D g p (Crc.sum p 0#64 (cat l k)) ∧ Below w.heap.size w wr) (fun _ i _ => m - (intOf i).toNat)
  case atStart => exact ⟨0, by omega, rfl, hd0, hb0⟩
  case round =>
    clear hd0 hb0
    obtain ⟨k, hk, rfl, hD, hbel⟩ := hrel
    by_cases hlt : k < m
    · obtain ⟨b, off, rfl, hb, hc⟩ := hP.below hbel hB (by omega)
      obtain ⟨hck, hcap, hAk⟩ := hc k hlt
      have hmk := Hf.out.2 k hlt
      obtain ⟨q, Hq⟩ : ∃ q : Nat, Hid (q = (l k).length) := ⟨_, rfl⟩
      rw [← Hq.out] at hck hcap hmk
      clear hc
      have HP : Hid _ := hP
      clear hP
      go_wp2_with fail
      refine (write_any p _ D g (A k) (l k) q (C k) B _ Hq.out (by omega) hcap hAk hBD hD).mono ?_
      rintro e w1 ⟨rfl, hD1, hb1⟩
      clear hck hAk
      go_wp2_with fail
      go_roundw
      case rel => exact ⟨k + 1, by omega, by go_num, by rw [sum_join] at hD1; exact hD1, hbel.trans (hb1.mono hDw)⟩
      case measure => simp [intOf]; omega
    · obtain rfl : k = m := by omega
      go_wp2_with fail
      refine (marshalBinary_any p _ D g _ hD).mono ?_
      rintro e w1 ⟨G, rfl, hby, hb1⟩
      go_wp2_with fail
      go_ret2
      exact ⟨G, rfl, hby, hbel.trans (hb1.mono hbel.size)⟩
/-- what Marshal64 leaves -/
def M6Post (l : List (BitVec 8)) (w : World) (e : Ending) (w' : World) : Prop := ∃ G, e = .returned (.tuple #[.slice (some ⟨G, 0, none⟩) 20 20, .bool true]) ∧ Bytes w' w'.heap.size (some ⟨G, 0, none⟩) l ∧ Below w.heap.size w w'
theorem marshal64_any (p : BitVec 64) (P : Option Addr) (m cap B : Nat) (A : Nat → Option Addr) (C : Nat → Nat) (l : Nat → List (BitVec 8)) (w : World) (hP : Pieces w B P m A C l) (hB : B ≤ w.heap.size) (hf : fits m l) :
    Calls Try.prog 8 #[.int .u64 (u p), .slice P m cap] w (M6Post (state p (Crc.sum p 0#64 (cat l m))) w) := by
  have Hf : Hid (fits m l) := hf
  have HP : Hid (Pieces w B P m A C l) := hP
  clear hf hP
  go_enter Try.func8, Try.ntmps8
  go_wp2_with fail
  refine (mt_any p _).mono ?_
  rintro e w1 ⟨g, rfl, hT, hlt, hg, hb⟩
  have HT : Hid (TabAt w1 g p) := hT
  clear hT
  go_wp2_with fail
  refine (marshal_any p g P m cap B A C l w1 (HP.out.below hb hB) (Nat.le_trans hB hb.size) Hf.out HT.out hlt).mono ?_
  rintro e w2 ⟨G, rfl, hby, hb2⟩
  go_wp2_with fail
  go_region
  all_goals (go_wp2_with fail; go_ret2; exact ⟨G, rfl, hby, (hb.trans (hb2.mono hb.size)).drew⟩)
end Go.Proofs.Ytocolnikidfbnaa
