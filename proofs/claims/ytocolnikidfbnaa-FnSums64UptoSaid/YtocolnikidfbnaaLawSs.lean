/- The law on the sum of a digest behind other bytes. -/
import Derived.Test.YtocolnikidfbnaaChecked
import Derived.Test.YtocolnikidfbnaaSu
import Derived.WalkKit
import Derived.LoopTactic
namespace Go.Proofs.Ytocolnikidfbnaa
open Go.RowKit
set_option maxRecDepth 100000 in
set_option maxHeartbeats 1000000 in
theorem law_FnSums64 (p : BitVec 64) (P : Option Addr) (m cap : Nat) (A : Nat → Option Addr) (C : Nat → Nat) (l : Nat → List (BitVec 8)) {w : World}
    (hP : Pieces w w.heap.size P m A C l) (a2 : Option Addr) (n2 cap2 : Nat) (l2 : List (BitVec 8)) (hn2 : n2 = l2.length) (hA2 : Bytes w w.heap.size a2 l2) (_hcap2 : n2 ≤ cap2) (hbulk : (cat l m).length ≤ 1048576) :
    Calls Try.prog 6 #[.int .u64 (u p), .slice P m cap, .slice a2 n2 cap2] w fun e w' => e = .returned (.bool true) ∧ Below w.heap.size w w' := by
  have Hn2 : Hid (n2 = l2.length) := hn2
  have HP : Hid (Pieces w w.heap.size P m A C l) := hP
  have HA2 : Hid (Bytes w w.heap.size a2 l2) := hA2
  have Hbk : Hid ((cat l m).length ≤ 1048576) := hbulk
  clear hn2 hP hA2 hbulk
  by_cases hbig2 : 2147483647 < n2
  · have hd2 : decide ((2147483647 : Int) < (n2 : Int)) = true := decide_eq_true (by omega)
    go_enter Try.func6, Try.ntmps6
    go_wp2_with fail
    refine (fits_any P m cap _ A C l w HP.out).mono ?_
    rintro e w1 ⟨b, rfl, _, rfl⟩
    cases b
    · go_wp2_with fail
      go_ret
      exact ⟨rfl, Below.refl _ _⟩
    · go_wp2_with fail
      go_ret
      exact ⟨rfl, Below.refl _ _⟩
  have hd2 : decide ((2147483647 : Int) < (n2 : Int)) = false := decide_eq_false (by omega)
  go_enter Try.func6, Try.ntmps6
  go_wp2_with fail
  refine (fits_any P m cap _ A C l w HP.out).mono ?_
  rintro e w1 ⟨b, rfl, hfit, rfl⟩
  cases b
  · go_wp2_with fail
    go_ret
    exact ⟨rfl, Below.refl _ _⟩
  have Hf : Hid (fits m l) := hfit rfl
  clear hfit
  obtain ⟨s, Hs⟩ : ∃ s, Hid (s = Crc.sum p 0#64 (cat l m)) := ⟨_, rfl⟩
  go_wp2_with fail
  refine (sums64_any p P m cap _ A C l w HP.out (Nat.le_refl _) Hf.out a2 n2 cap2 l2 HA2.out Hn2.out (by omega)).mono ?_
  rw [← Hs.out]
  rintro e w2 ⟨A2, c2, rfl, hby2, hc2, hb2⟩
  have HB2 : Hid (Bytes w2 w2.heap.size A2 (l2 ++ be8 s)) := hby2
  clear hby2
  go_wp2_with fail
  refine (join_any P m cap _ A C l w2 (HP.out.below hb2 (Nat.le_refl _)) hb2.size Hf.out.1 Hbk.out).mono ?_
  rintro e w3 ⟨A3, n3, c3, rfl, hn3, hc3, ho3, hb3⟩
  have hle3 : n3 ≤ 1048576 := by have := Hbk.out; omega
  have Hn3 : Hid (n3 = (cat l m).length) := hn3
  have HB3 : Hid (Bytes w3 w3.heap.size A3 (cat l m)) := owns_bytes ho3
  have hbw3 : Below w.heap.size w w3 := hb2.trans (hb3.mono hb2.size)
  clear hn3 ho3
  go_wp2_with fail
  refine (checksum64_any p A3 (cat l m) n3 c3 _ w3 Hn3.out (by omega) hc3 HB3.out (Nat.le_refl _)).mono ?_
  rw [← Hs.out]
  rintro e w4 ⟨rfl, hb4⟩
  have hbw4 : Below w.heap.size w w4 := hbw3.trans (hb4.mono hbw3.size)
  have hb24 : Below w2.heap.size w2 w4 := hb3.trans (hb4.mono hb3.size)
  clear hb3 hb4 hbw3 HB3 Hn3
  obtain ⟨A5, c5, w5, hr5, ho5, hb5, hc5⟩ := copy_bytes w4 a2 l2 n2 cap2 _ Hn2.out (HA2.out.below hbw4 (Nat.le_refl _)) hbw4.size (by omega)
  have HO5 : Hid (w5.ownsRow w4.heap.size 5 1 (.slice A5 n2 c5) n2 (l2.map byteV)) := ho5
  clear ho5
  go_wp2_with (at_builtin; refine wpList_run_append_g (by rfl) (.tmp 32) (.tmp 33) _ _ rfl rfl rfl hr5 ?_)
  clear hr5
  refine (high_any s w5).mono ?_
  rintro e w6 ⟨A6, n6, c6, rfl, hn6, hc6, ho6, hb6⟩
  have hn6' : n6 = 8 := hn6
  subst hn6'
  clear hn6
  obtain ⟨A7, c7, w7, hr7, ho7, hb7, hc7, hby7⟩ := more_bytes (w0 := w4) (owns_below HO5.out hb6 (Nat.le_refl _)) (hb5.trans (hb6.mono hb5.size)) (Nat.le_refl _) A6 (be8 s) 8 c6 _ rfl (owns_bytes ho6) (by omega)
  have HB7 : Hid (Bytes w7 w7.heap.size A7 (l2 ++ be8 s)) := hby7
  clear ho6 ho7 hby7
  go_wp2_with (at_builtin; refine wpList_run_append_g (by rfl) (.tmp 34) (.tmp 36) _ _ rfl rfl rfl hr7 ?_)
  clear hr7
  have hb27 : Below w2.heap.size w2 w7 := hb24.trans (hb7.mono hb24.size)
  have Hl : Hid (n2 + 8 = (l2 ++ be8 s).length) := by show _ = _; rw [List.length_append, ← Hn2.out]; rfl
  refine (same_any A2 A7 (l2 ++ be8 s) (l2 ++ be8 s) (n2 + 8) c2 (n2 + 8) c7 _ _ w7 Hl.out Hl.out (by omega) (by omega) (HB2.out.below hb27 (Nat.le_refl _)) HB7.out).mono ?_
  rw [show eqB (l2 ++ be8 s) (l2 ++ be8 s) = true by rw [eqB_is]; exact beq_self_eq_true _]
  rintro e w8 ⟨rfl, rfl⟩
  go_wp2_with fail
  go_ret
  exact ⟨rfl, hbw4.trans (hb7.mono hbw4.size)⟩
end Go.Proofs.Ytocolnikidfbnaa
