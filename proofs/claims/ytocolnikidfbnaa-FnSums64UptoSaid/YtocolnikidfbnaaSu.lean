/- The digest's sum behind other bytes: Sum, Sums and the thin package's Sums64. -/
import Derived.Test.YtocolnikidfbnaaChecked
import Derived.Test.YtocolnikidfbnaaJo
import Derived.WalkKit
import Derived.LoopTactic
namespace Go.Proofs.Ytocolnikidfbnaa
open Go.RowKit
theorem sum_run (p x : BitVec 64) (D g : Nat) (A : Option Addr) (n c : Nat) (w : World) (hD : Dig w D g p x) (A' : Option Addr) (n' c' : Nat) (w' : World)
    (hr : (Builtin.append_ #[25, 25] 25 #[.slice A n c, .slice (some ⟨w.heap.size, 0, none⟩) 8 8]).run Try.prog (w.alloc (be8Cells x)) = .ok (.slice A' n' c') w') :
    Calls Try.prog 28 #[.pointer (some ⟨D, 0, none⟩), .slice A n c] w fun e w'' => e = .returned (.slice A' n' c') ∧ w'' = w' := by
  unfold be8Cells be8 at hr
  go_enter Try.func28, Try.ntmps28
  go_wp2_with fail
  refine (sum64_any p x D g w hD).mono ?_
  rintro e w1 ⟨rfl, rfl⟩
  go_wp2_with (at_builtin; refine wpList_run_append rfl (.tmp 8) (.tmp 32) _ _ rfl rfl rfl hr ?_)
  go_ret
  exact ⟨rfl, rfl⟩
/-- what Sums leaves -/
def SuPost (s : BitVec 64) (r : List (BitVec 8)) (n base : Nat) (w : World) (e : Ending) (w' : World) : Prop := ∃ A c, e = .returned (.tuple #[.int .u64 (u s), .slice A n c]) ∧ Bytes w' w'.heap.size A r ∧ n ≤ c ∧ Below base w w'
set_option maxRecDepth 100000 in
set_option maxHeartbeats 1000000 in
theorem sums_any (p : BitVec 64) (g : Nat) (P : Option Addr) (m cap B : Nat) (A : Nat → Option Addr) (C : Nat → Nat) (l : Nat → List (BitVec 8)) (w : World) (hP : Pieces w B P m A C l) (hB : B ≤ w.heap.size) (hf : fits m l) (hT : TabAt w g p) (hg : g < w.heap.size)
    (A0 : Option Addr) (n0 c0 base : Nat) (l0 : List (BitVec 8)) (hown : w.ownsRow base 5 1 (.slice A0 n0 c0) n0 (l0.map byteV)) (hbase : base ≤ w.heap.size) (hn0 : n0 ≤ 2147483647) :
    Calls Try.prog 19 #[.pointer (some ⟨g, 0, none⟩), .slice P m cap, .slice A0 n0 c0] w (SuPost (Crc.sum p 0#64 (cat l m)) (l0 ++ be8 (Crc.sum p 0#64 (cat l m))) (n0 + 8) base w) := by
  obtain ⟨D, HD⟩ : ∃ D, Hid (D = w.heap.size) := ⟨_, rfl⟩
  have hd0 := dig0 hT hg
  have hb0 : Below w.heap.size w (w.alloc (.cells #[.int .u64 0, .pointer (some ⟨g, 0, none⟩)] 51)) := (Below.refl _ _).alloc (Nat.le_refl _) _
  rw [← HD.out] at hd0
  have hmm : m ≤ 2147483647 := hf.1
  have Hf : Hid (fits m l) := hf
  have hBD : B ≤ D := by rw [HD.out]; exact hB
  have hDw : w.heap.size ≤ D := by rw [HD.out]; exact Nat.le_refl _
  have HP : Hid (Pieces w B P m A C l) := hP
  have HO : Hid (w.ownsRow base 5 1 (.slice A0 n0 c0) n0 (l0.map byteV)) := hown
  clear hT hf hP hown
  go_enter Try.func19, Try.ntmps19
  go_wp2_with fail
  rw [← HD.out]
  go_loopw [10, 16] (fun _ i wr => ∃ k : Nat, k ≤ m ∧ i = .int .i64 k ∧ Dig wr D g p (Crc.sum p 0#64 (cat l k)) ∧ Below w.heap.size w wr) (fun _ i _ => m - (intOf i).toNat)
  case atStart => exact ⟨0, by omega, rfl, hd0, hb0⟩
  case round =>
    clear hd0 hb0
    obtain ⟨k, hk, rfl, hD, hbel⟩ := hrel
    by_cases hlt : k < m
    · obtain ⟨b, off, rfl, hb, hc⟩ := HP.out.below hbel hB (by omega)
      obtain ⟨hck, hcap, hAk⟩ := hc k hlt
      have hmk := Hf.out.2 k hlt
      obtain ⟨q, Hq⟩ : ∃ q : Nat, Hid (q = (l k).length) := ⟨_, rfl⟩
      rw [← Hq.out] at hck hcap hmk
      clear hc
      go_wp2_with fail
      refine (write_any p _ D g (A k) (l k) q (C k) B _ Hq.out (by omega) hcap hAk hBD hD).mono ?_
      rintro e w1 ⟨rfl, hD1, hb1⟩
      clear hck hAk
      go_wp2_with fail
      go_roundw
      case rel => exact ⟨k + 1, by omega, by go_num, by rw [sum_join] at hD1; exact hD1, hbel.trans (hb1.mono hDw)⟩
      case measure => simp [intOf]; omega
    · obtain rfl : k = m := by omega
      obtain ⟨s, Hs⟩ : ∃ s, Hid (s = Crc.sum p 0#64 (cat l k)) := ⟨_, rfl⟩
      rw [← Hs.out] at hD
      rw [← Hs.out]
      have ho1 := owns_below HO.out hbel (Nat.le_refl _)
      have hbb : Below base w (wr.alloc (be8Cells s)) := (hbel.mono hbase).alloc (Nat.le_trans hbase hbel.size) _
      obtain ⟨A3, c3, w3, hr3, ho3, hb3, hc3, hby3⟩ := more_bytes (owns_below ho1 ((Below.refl wr.heap.size wr).alloc (Nat.le_refl _) (be8Cells s)) (Nat.le_refl _)) hbb hbase (some ⟨wr.heap.size, 0, none⟩) (be8 s) 8 8 _ rfl (bytes_be8 wr s) (by omega)
      have Hr3 : Hid _ := hr3
      clear ho1 ho3 hbb hr3
      go_wp2_with fail
      refine (sum64_any p _ D g _ hD).mono ?_
      rintro e w1 ⟨rfl, rfl⟩
      go_wp2_with fail
      refine (sum_run p s D g _ _ _ _ hD _ _ _ _ Hr3.out).mono ?_
      rintro e w1 ⟨rfl, rfl⟩
      go_wp2_with fail
      go_ret2
      have hs := Hs.out
      subst hs
      exact ⟨A3, c3, rfl, hby3, hc3, hb3⟩
theorem sums64_any (p : BitVec 64) (P : Option Addr) (m cap B : Nat) (A : Nat → Option Addr) (C : Nat → Nat) (l : Nat → List (BitVec 8)) (w : World) (hP : Pieces w B P m A C l) (hB : B ≤ w.heap.size) (hf : fits m l)
    (A0 : Option Addr) (n0 c0 : Nat) (l0 : List (BitVec 8)) (hA0 : Bytes w B A0 l0) (hn : n0 = l0.length) (hn0 : n0 ≤ 2147483647) :
    Calls Try.prog 13 #[.int .u64 (u p), .slice P m cap, .slice A0 n0 c0] w (SuPost (Crc.sum p 0#64 (cat l m)) (l0 ++ be8 (Crc.sum p 0#64 (cat l m))) (n0 + 8) w.heap.size w) := by
  have Hf : Hid (fits m l) := hf
  have HP : Hid (Pieces w B P m A C l) := hP
  have HA : Hid (Bytes w B A0 l0) := hA0
  have Hn : Hid (n0 = l0.length) := hn
  clear hf hP hA0 hn
  go_enter Try.func13, Try.ntmps13
  go_wp2_with fail
  refine (mt_any p _).mono ?_
  rintro e w1 ⟨g, rfl, hT, hlt, hg, hb⟩
  have HT : Hid (TabAt w1 g p) := hT
  clear hT
  obtain ⟨A2, c2, w2, hr2, ho2, hb2, hc2⟩ := copy_bytes w1 A0 l0 n0 c0 B Hn.out (HA.out.below hb hB) (Nat.le_trans hB hb.size) (by omega)
  have hbw : Below w.heap.size w w2 := hb.trans (hb2.mono hb.size)
  have HO : Hid (w2.ownsRow w1.heap.size 5 1 (.slice A2 n0 c2) n0 (l0.map byteV)) := ho2
  clear ho2
  go_wp2_with (at_builtin; refine wpList_run_append rfl (.tmp 11) (.tmp 12) _ _ rfl rfl rfl hr2 ?_)
  clear hr2
  refine (sums_any p g P m cap B A C l w2 (HP.out.below hbw hB) (Nat.le_trans hB hbw.size) Hf.out (HT.out.below hb2 hlt) (Nat.lt_of_lt_of_le hlt hb2.size) A2 n0 c2 w1.heap.size l0 HO.out hb2.size hn0).mono ?_
  rintro e w3 ⟨A3, c3, rfl, hby, hc3, hb3⟩
  go_wp2_with fail
  go_ret2
  exact ⟨A3, c3, rfl, hby, hc3, hbw.trans (hb3.mono hb.size)⟩
end Go.Proofs.Ytocolnikidfbnaa
