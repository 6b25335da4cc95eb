/- Unmarshal and the thin package's Unmarshal64. -/
import Derived.Test.YtocolnikidfbnaaChecked
import Derived.Test.YtocolnikidfbnaaUn
import Derived.Test.YtocolnikidfbnaaMa
import Derived.WalkKit
import Derived.LoopTactic
import Derived.RegionTactic
namespace Go.Proofs.Ytocolnikidfbnaa
open Go.RowKit
/-- what Unmarshal leaves where the state is taken over -/
def UmPost (s : BitVec 64) (w : World) (e : Ending) (w' : World) : Prop := e = .returned (.tuple #[.int .u64 (u s), Value.nilIface]) ∧ Below w.heap.size w w'
/-- .. and where it is not -/
def UnPost (w : World) (e : Ending) (w' : World) : Prop := ∃ t v, e = .returned (.tuple #[.int .u64 0, .iface t v]) ∧ Below w.heap.size w w'
set_option maxRecDepth 100000 in
set_option maxHeartbeats 1000000 in
theorem unmarshal_no (g : Nat) (A : Option Addr) (l : List (BitVec 8)) (n cap B : Nat) (v : Value) (w : World) (hn : n = l.length) (h20 : n < 20 ∨ 20 < n) (hcap : n ≤ cap) (hA : Bytes w B A l) (hB : B ≤ w.heap.size) :
    Calls Try.prog 18 #[.pointer (some ⟨g, 0, none⟩), .slice A n cap, v] w (UnPost w) := by
  have hb0 : Below w.heap.size w (w.alloc (.cells #[.int .u64 0, .pointer (some ⟨g, 0, none⟩)] 51)) := (Below.refl _ _).alloc (Nat.le_refl _) _
  have Hn : Hid (n = l.length) := hn
  have HA : Hid (Bytes w B A l) := hA
  clear hn hA
  go_enter Try.func18, Try.ntmps18
  go_wp2_with fail
  refine (unmarshalBinary_no _ A l n cap B _ Hn.out h20 hcap (HA.out.below hb0 hB)).mono ?_
  rintro e w1 ⟨t, v, rfl, hb⟩
  go_wp2_with fail
  go_ret2
  exact ⟨t, v, rfl, hb0.trans (hb.mono hb0.size)⟩
set_option maxRecDepth 100000 in
set_option maxHeartbeats 1000000 in
theorem unmarshal_ok (p c : BitVec 64) (g b off cs Bs : Nat) (P : Option Addr) (m cap B : Nat) (A : Nat → Option Addr) (C : Nat → Nat) (l : Nat → List (BitVec 8)) (w : World) (hcs : 20 ≤ cs) (hS : Bytes w Bs (some ⟨b, off, none⟩) (state p c)) (hBs : Bs ≤ w.heap.size)
    (hP : Pieces w B P m A C l) (hB : B ≤ w.heap.size) (hf : fits m l) (hT : TabAt w g p) (hg : g < w.heap.size) :
    Calls Try.prog 18 #[.pointer (some ⟨g, 0, none⟩), .slice (some ⟨b, off, none⟩) 20 cs, .slice P m cap] w (UmPost (Crc.sum p c (cat l m)) w) := by
  obtain ⟨D, HD⟩ : ∃ D, Hid (D = w.heap.size) := ⟨_, rfl⟩
  have hd0 := dig0 hT hg
  have hb0 : Below w.heap.size w (w.alloc (.cells #[.int .u64 0, .pointer (some ⟨g, 0, none⟩)] 51)) := (Below.refl _ _).alloc (Nat.le_refl _) _
  rw [← HD.out] at hd0
  have hmm : m ≤ 2147483647 := hf.1
  have Hf : Hid (fits m l) := hf
  have hBD : B ≤ D := by rw [HD.out]; exact hB
  have hBsD : Bs ≤ D := by rw [HD.out]; exact hBs
  have hDw : w.heap.size ≤ D := by rw [HD.out]; exact Nat.le_refl _
  have HP : Hid (Pieces w B P m A C l) := hP
  have HS : Hid (Bytes w Bs (some ⟨b, off, none⟩) (state p c)) := hS
  clear hT hf hS hP
  go_enter Try.func18, Try.ntmps18
  go_wp2_with fail
  rw [← HD.out]
  refine (unmarshalBinary_ok p c _ D g b off cs Bs _ hcs (HS.out.below hb0 hBs) hBsD hd0).mono ?_
  rintro e w1 ⟨rfl, hD1, hb1⟩
  have hbel1 : Below w.heap.size w w1 := hb0.trans (hb1.mono hDw)
  have hD1' : Dig w1 D g p (Crc.sum p c (cat l 0)) := by rw [show cat l 0 = [] from rfl, sum_nil]; exact hD1
  clear hd0 hb0 hb1 hD1
  go_wp2_with fail
  go_loopw [11, 23] (fun _ i wr => ∃ k : Nat, k ≤ m ∧ i = .int .i64 k ∧ Dig wr D g p (Crc.sum p c (cat l k)) ∧ Below w.heap.size w wr) (fun _ i _ => m - (intOf i).toNat)
  case atStart => exact ⟨0, by omega, rfl, hD1', hbel1⟩
  case round =>
    clear hD1' hbel1
    obtain ⟨k, hk, rfl, hD, hbel⟩ := hrel
    by_cases hlt : k < m
    · obtain ⟨b, off, rfl, hb, hc⟩ := HP.out.below hbel hB (by omega)
      obtain ⟨hck, hcap, hAk⟩ := hc k hlt
      have hmk := Hf.out.2 k hlt
      obtain ⟨q, Hq⟩ : ∃ q : Nat, Hid (q = (l k).length) := ⟨_, rfl⟩
      rw [← Hq.out] at hck hcap hmk
      clear hc
      go_wp2_with fail
      refine (write_any p _ D g (A k) (l k) q (C k) B _ Hq.out (by omega) hcap hAk hBD hD).mono ?_
      rintro e w1 ⟨rfl, hD1, hb1⟩
      clear hck hAk
      go_wp2_with fail
      go_roundw
      case rel => exact ⟨k + 1, by omega, by go_num, by rw [sum_join] at hD1; exact hD1, hbel.trans (hb1.mono hDw)⟩
      case measure => simp [intOf]; omega
    · obtain rfl : k = m := by omega
      go_wp2_with fail
      refine (sum64_any p _ D g _ hD).mono ?_
      rintro e w1 ⟨rfl, rfl⟩
      go_wp2_with fail
      go_ret2
      exact ⟨rfl, hbel⟩
/-- Unmarshal64, taken over -/
def U6Post (s : BitVec 64) (w : World) (e : Ending) (w' : World) : Prop := e = .returned (.tuple #[.int .u64 (u s), .bool true]) ∧ Below w.heap.size w w'
/-- .. and not -/
def N6Post (w : World) (e : Ending) (w' : World) : Prop := e = .returned (.tuple #[.int .u64 0, .bool false]) ∧ Below w.heap.size w w'
theorem unmarshal64_no (p : BitVec 64) (A : Option Addr) (l : List (BitVec 8)) (n cap B : Nat) (v : Value) (w : World) (hn : n = l.length) (h20 : n < 20 ∨ 20 < n) (hcap : n ≤ cap) (hA : Bytes w B A l) (hB : B ≤ w.heap.size) :
    Calls Try.prog 12 #[.int .u64 (u p), .slice A n cap, v] w (N6Post w) := by
  have Hn : Hid (n = l.length) := hn
  have HA : Hid (Bytes w B A l) := hA
  clear hn hA
  go_enter Try.func12, Try.ntmps12
  go_wp2_with fail
  refine (mt_any p _).mono ?_
  rintro e w1 ⟨g, rfl, hT, hlt, hg, hb⟩
  clear hT
  go_wp2_with fail
  refine (unmarshal_no g A l n cap B _ w1 Hn.out h20 hcap (HA.out.below hb hB) (Nat.le_trans hB hb.size)).mono ?_
  rintro e w2 ⟨t, v, rfl, hb2⟩
  go_wp2_with fail
  go_region
  all_goals (go_wp2_with fail; go_ret2; exact ⟨rfl, (hb.trans (hb2.mono hb.size)).drew⟩)
theorem unmarshal64_ok (p c : BitVec 64) (b off cs Bs : Nat) (P : Option Addr) (m cap B : Nat) (A : Nat → Option Addr) (C : Nat → Nat) (l : Nat → List (BitVec 8)) (w : World) (hcs : 20 ≤ cs) (hS : Bytes w Bs (some ⟨b, off, none⟩) (state p c)) (hBs : Bs ≤ w.heap.size)
    (hP : Pieces w B P m A C l) (hB : B ≤ w.heap.size) (hf : fits m l) :
    Calls Try.prog 12 #[.int .u64 (u p), .slice (some ⟨b, off, none⟩) 20 cs, .slice P m cap] w (U6Post (Crc.sum p c (cat l m)) w) := by
  have Hf : Hid (fits m l) := hf
  have HP : Hid (Pieces w B P m A C l) := hP
  have HS : Hid (Bytes w Bs (some ⟨b, off, none⟩) (state p c)) := hS
  clear hf hS hP
  go_enter Try.func12, Try.ntmps12
  go_wp2_with fail
  refine (mt_any p _).mono ?_
  rintro e w1 ⟨g, rfl, hT, hlt, hg, hb⟩
  have HT : Hid (TabAt w1 g p) := hT
  clear hT
  go_wp2_with fail
  refine (unmarshal_ok p c g b off cs Bs P m cap B A C l w1 hcs (HS.out.below hb hBs) (Nat.le_trans hBs hb.size) (HP.out.below hb hB) (Nat.le_trans hB hb.size) Hf.out HT.out hlt).mono ?_
  rintro e w2 ⟨rfl, hb2⟩
  go_wp2_with fail
  go_region
  all_goals (go_wp2_with fail; go_ret2; exact ⟨rfl, (hb.trans (hb2.mono hb.size)).drew⟩)
end Go.Proofs.Ytocolnikidfbnaa
