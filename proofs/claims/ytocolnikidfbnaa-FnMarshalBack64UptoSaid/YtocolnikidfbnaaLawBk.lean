/- The law on a digest that takes over the state of another one. -/
import Derived.Test.YtocolnikidfbnaaChecked
import Derived.Test.YtocolnikidfbnaaUm
import Derived.Test.YtocolnikidfbnaaJo
import Derived.WalkKit
import Derived.LoopTactic
namespace Go.Proofs.Ytocolnikidfbnaa
open Go.RowKit
set_option maxRecDepth 100000 in
set_option maxHeartbeats 1000000 in
theorem law_FnMarshalBack64 (p : BitVec 64) (P : Option Addr) (m cap : Nat) (A : Nat → Option Addr) (C : Nat → Nat) (l : Nat → List (BitVec 8)) {w : World} (hP : Pieces w w.heap.size P m A C l)
    (P2 : Option Addr) (m2 cap2 : Nat) (A2 : Nat → Option Addr) (C2 : Nat → Nat) (l2 : Nat → List (BitVec 8)) (hP2 : Pieces w w.heap.size P2 m2 A2 C2 l2) (hbulk : (cat l m).length ≤ 1048576) (hbulk2 : (cat l2 m2).length ≤ 1048576) :
    Calls Try.prog 5 #[.int .u64 (u p), .slice P m cap, .slice P2 m2 cap2] w fun e w' => e = .returned (.bool true) ∧ Below w.heap.size w w' := by
  have HP : Hid (Pieces w w.heap.size P m A C l) := hP
  have HP2 : Hid (Pieces w w.heap.size P2 m2 A2 C2 l2) := hP2
  have Hbk : Hid ((cat l m).length ≤ 1048576) := hbulk
  have Hbk2 : Hid ((cat l2 m2).length ≤ 1048576) := hbulk2
  clear hP hP2 hbulk hbulk2
  go_enter Try.func5, Try.ntmps5
  go_wp2_with fail
  refine (fits_any P m cap _ A C l w HP.out).mono ?_
  rintro e w1 ⟨b, rfl, hfit, rfl⟩
  cases b
  · go_wp2_with fail
    go_ret
    exact ⟨rfl, Below.refl _ _⟩
  have Hf : Hid (fits m l) := hfit rfl
  clear hfit
  go_wp2_with fail
  refine (fits_any P2 m2 cap2 _ A2 C2 l2 w HP2.out).mono ?_
  rintro e w1 ⟨b, rfl, hfit, rfl⟩
  cases b
  · go_wp2_with fail
    go_ret
    exact ⟨rfl, Below.refl _ _⟩
  have Hf2 : Hid (fits m2 l2) := hfit rfl
  clear hfit
  obtain ⟨s, Hs⟩ : ∃ s, Hid (s = Crc.sum p 0#64 (cat l m ++ cat l2 m2)) := ⟨_, rfl⟩
  go_wp2_with fail
  refine (marshal64_any p P m cap _ A C l w HP.out (Nat.le_refl _) Hf.out).mono ?_
  rintro e w2 ⟨G, rfl, hS, hb2⟩
  have HS : Hid (Bytes w2 w2.heap.size (some ⟨G, 0, none⟩) (state p (Crc.sum p 0#64 (cat l m)))) := hS
  clear hS
  go_wp2_with fail
  refine (unmarshal64_ok p _ G 0 20 _ P2 m2 cap2 _ A2 C2 l2 w2 (by omega) HS.out (Nat.le_refl _) (HP2.out.below hb2 (Nat.le_refl _)) hb2.size Hf2.out).mono ?_
  rw [sum_join, ← Hs.out]
  rintro e w3 ⟨rfl, hb3⟩
  have hbw3 : Below w.heap.size w w3 := hb2.trans (hb3.mono hb2.size)
  clear hb2 hb3 HS
  go_wp2_with fail
  refine (join_any P m cap _ A C l w3 (HP.out.below hbw3 (Nat.le_refl _)) hbw3.size Hf.out.1 Hbk.out).mono ?_
  rintro e w4 ⟨A4, n4, c4, rfl, hn4, hc4, ho4, hb4⟩
  have hle4 : n4 ≤ 1048576 := by have := Hbk.out; omega
  have Hn4 : Hid (n4 = (cat l m).length) := hn4
  have HO4 : Hid (w4.ownsRow w3.heap.size 5 1 (.slice A4 n4 c4) n4 ((cat l m).map byteV)) := ho4
  have hbw4 : Below w.heap.size w w4 := hbw3.trans (hb4.mono hbw3.size)
  clear hn4 ho4
  go_wp2_with fail
  refine (join_any P2 m2 cap2 _ A2 C2 l2 w4 (HP2.out.below hbw4 (Nat.le_refl _)) hbw4.size Hf2.out.1 Hbk2.out).mono ?_
  rintro e w5 ⟨A5, n5, c5, rfl, hn5, hc5, ho5, hb5⟩
  have hle5 : n5 ≤ 1048576 := by have := Hbk2.out; omega
  have Hn5 : Hid (n5 = (cat l2 m2).length) := hn5
  clear hn5
  obtain ⟨A6, c6, w6, hr6, ho6, hb6, hc6, hby6⟩ := more_bytes (w0 := w3) (owns_below HO4.out hb5 (Nat.le_refl _)) (hb4.trans (hb5.mono hb4.size)) (Nat.le_refl _) A5 (cat l2 m2) n5 c5 _ Hn5.out (owns_bytes ho5) (by omega)
  have HB6 : Hid (Bytes w6 w6.heap.size A6 (cat l m ++ cat l2 m2)) := hby6
  clear ho5 ho6 hby6
  go_wp2_with (at_builtin; refine wpList_run_append_g (by rfl) (.tmp 40) (.tmp 42) _ _ rfl rfl rfl hr6 ?_)
  clear hr6
  have hbw6 : Below w.heap.size w w6 := hbw3.trans (hb6.mono hbw3.size)
  have Hl : Hid (n4 + n5 = (cat l m ++ cat l2 m2).length) := by show _ = _; rw [List.length_append, ← Hn4.out, ← Hn5.out]
  refine (checksum64_any p A6 (cat l m ++ cat l2 m2) (n4 + n5) c6 _ w6 Hl.out (by omega) hc6 HB6.out (Nat.le_refl _)).mono ?_
  rw [← Hs.out]
  rintro e w7 ⟨rfl, hb7⟩
  go_wp2_with fail
  go_ret
  exact ⟨rfl, hbw6.trans (hb7.mono hbw6.size)⟩
end Go.Proofs.Ytocolnikidfbnaa
