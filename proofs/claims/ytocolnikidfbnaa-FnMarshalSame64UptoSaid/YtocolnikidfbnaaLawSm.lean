/- The law on states that are the same. -/
import Derived.Test.YtocolnikidfbnaaChecked
import Derived.Test.YtocolnikidfbnaaUm
import Derived.Test.YtocolnikidfbnaaJo
import Derived.WalkKit
import Derived.LoopTactic
namespace Go.Proofs.Ytocolnikidfbnaa
open Go.RowKit
theorem state_inj (p c d : BitVec 64) : state p c = state p d ↔ c = d := by
  constructor
  · intro h
    have h1 := List.append_cancel_left h
    have h2 := beTo_be8 c []
    have h3 := beTo_be8 d []
    rw [h1] at h2
    exact h2.symm.trans h3
  · intro h; rw [h]
theorem eqB_state (p c d : BitVec 64) : eqB (state p c) (state p d) = (c == d) := by
  rw [eqB_is, Bool.eq_iff_iff, beq_iff_eq, beq_iff_eq, state_inj]
/-- a slice of one slice, new -/
theorem pieces_one (w : World) (A : Option Addr) (n c : Nat) (r : List (BitVec 8)) (hn : n = r.length) (hc : n ≤ c) (hA : Bytes w w.heap.size A r) (t : TypeId) :
    Pieces (w.alloc (.cells #[.slice A n c] t)) (w.heap.size + 1) (some ⟨w.heap.size, 0, none⟩) 1 (fun _ => A) (fun _ => c) (fun _ => r) := by
  intro _
  refine ⟨w.heap.size, 0, rfl, by omega, fun j hj => ?_⟩
  obtain rfl : j = 0 := by omega
  rw [← hn]
  exact ⟨(Blk.new w t #[.slice A n c]).cell 0, hc, (hA.below ((Below.refl w.heap.size w).alloc (Nat.le_refl _) _) (Nat.le_refl _)).more (by omega)⟩
set_option maxRecDepth 100000 in
set_option maxHeartbeats 1000000 in
theorem law_FnMarshalSame64 (p : BitVec 64) (P : Option Addr) (m cap : Nat) (A : Nat → Option Addr) (C : Nat → Nat) (l : Nat → List (BitVec 8)) {w : World} (hP : Pieces w w.heap.size P m A C l)
    (P2 : Option Addr) (m2 cap2 : Nat) (A2 : Nat → Option Addr) (C2 : Nat → Nat) (l2 : Nat → List (BitVec 8)) (hP2 : Pieces w w.heap.size P2 m2 A2 C2 l2) (hbulk : (cat l m).length ≤ 1048576) (hbulk2 : (cat l2 m2).length ≤ 1048576) :
    Calls Try.prog 3 #[.int .u64 (u p), .slice P m cap, .slice P2 m2 cap2] w fun e w' => e = .returned (.bool true) ∧ Below w.heap.size w w' := by
  have HP : Hid (Pieces w w.heap.size P m A C l) := hP
  have HP2 : Hid (Pieces w w.heap.size P2 m2 A2 C2 l2) := hP2
  have Hbk : Hid ((cat l m).length ≤ 1048576) := hbulk
  have Hbk2 : Hid ((cat l2 m2).length ≤ 1048576) := hbulk2
  clear hP hP2 hbulk hbulk2
  go_enter Try.func3, Try.ntmps3
  go_wp2_with fail
  refine (fits_any P m cap _ A C l w HP.out).mono ?_
  rintro e w1 ⟨b, rfl, hfit, rfl⟩
  cases b
  · go_wp2_with fail
    go_ret
    exact ⟨rfl, Below.refl _ _⟩
  have Hf : Hid (fits m l) := hfit rfl
  clear hfit
  go_wp2_with fail
  refine (fits_any P2 m2 cap2 _ A2 C2 l2 w HP2.out).mono ?_
  rintro e w1 ⟨b, rfl, hfit, rfl⟩
  cases b
  · go_wp2_with fail
    go_ret
    exact ⟨rfl, Below.refl _ _⟩
  have Hf2 : Hid (fits m2 l2) := hfit rfl
  clear hfit
  obtain ⟨s, Hs⟩ : ∃ s, Hid (s = Crc.sum p 0#64 (cat l m)) := ⟨_, rfl⟩
  obtain ⟨t, Ht⟩ : ∃ t, Hid (t = Crc.sum p 0#64 (cat l2 m2)) := ⟨_, rfl⟩
  go_wp2_with fail
  refine (marshal64_any p P m cap _ A C l w HP.out (Nat.le_refl _) Hf.out).mono ?_
  rw [← Hs.out]
  rintro e w2 ⟨G, rfl, hS, hb2⟩
  have HS : Hid (Bytes w2 w2.heap.size (some ⟨G, 0, none⟩) (state p s)) := hS
  clear hS
  go_wp2_with fail
  refine (join_any P m cap _ A C l w2 (HP.out.below hb2 (Nat.le_refl _)) hb2.size Hf.out.1 Hbk.out).mono ?_
  rintro e w3 ⟨A3, n3, c3, rfl, hn3, hc3, ho3, hb3⟩
  have hle3 : n3 ≤ 1048576 := by have := Hbk.out; omega
  have hPo := pieces_one w3 A3 n3 c3 (cat l m) hn3 hc3 (owns_bytes ho3) 25
  have HPo : Hid (Pieces (w3.alloc (.cells #[.slice A3 n3 c3] 25)) (w3.heap.size + 1) (some ⟨w3.heap.size, 0, none⟩) 1 (fun _ => A3) (fun _ => c3) (fun _ => cat l m)) := hPo
  have hsz : w3.heap.size + 1 ≤ (w3.alloc (.cells #[.slice A3 n3 c3] 25)).heap.size := Nat.le_of_eq (Array.size_push _).symm
  have hbw3 : Below w.heap.size w w3 := hb2.trans (hb3.mono hb2.size)
  have hb23 : Below w2.heap.size w2 (w3.alloc (.cells #[.slice A3 n3 c3] 25)) := hb3.alloc hb3.size _
  clear hn3 ho3 hPo
  go_wp2_with fail
  refine (marshal64_any p (some ⟨w3.heap.size, 0, none⟩) 1 1 _ (fun _ => A3) (fun _ => c3) (fun _ => cat l m) _ HPo.out hsz ⟨by omega, fun _ _ => Nat.le_trans Hbk.out (by omega)⟩).mono ?_
  rw [show cat (fun _ => cat l m) 1 = cat l m from List.nil_append _, ← Hs.out]
  rintro e w4 ⟨G4, rfl, hS4, hb4⟩
  have HS4 : Hid (Bytes w4 w4.heap.size (some ⟨G4, 0, none⟩) (state p s)) := hS4
  have hb24 : Below w2.heap.size w2 w4 := hb23.trans (hb4.mono hb23.size)
  have hbw4 : Below w.heap.size w w4 := hb2.trans (hb24.mono hb2.size)
  clear hS4 HPo hsz hb23 hb4 hbw3 hb3
  go_wp2_with fail
  refine (marshal64_any p P2 m2 cap2 _ A2 C2 l2 w4 (HP2.out.below hbw4 (Nat.le_refl _)) hbw4.size Hf2.out).mono ?_
  rw [← Ht.out]
  rintro e w5 ⟨G5, rfl, hS5, hb5⟩
  have HS5 : Hid (Bytes w5 w5.heap.size (some ⟨G5, 0, none⟩) (state p t)) := hS5
  have hb25 : Below w2.heap.size w2 w5 := hb24.trans (hb5.mono hb24.size)
  have hbw5 : Below w.heap.size w w5 := hbw4.trans (hb5.mono hbw4.size)
  clear hS5
  go_wp2_with fail
  refine (same_any _ _ (state p s) (state p s) 20 20 20 20 _ _ w5 (state_length _ _).symm (state_length _ _).symm (by omega) (by omega) (HS.out.below hb25 (Nat.le_refl _)) (HS4.out.below hb5 (Nat.le_refl _))).mono ?_
  rw [show eqB (state p s) (state p s) = true by rw [eqB_state]; exact beq_self_eq_true _]
  rintro e w6 ⟨rfl, rfl⟩
  go_wp2_with fail
  refine (same_any _ _ (state p s) (state p t) 20 20 20 20 _ _ w5 (state_length _ _).symm (state_length _ _).symm (by omega) (by omega) (HS.out.below hb25 (Nat.le_refl _)) HS5.out).mono ?_
  rw [eqB_state]
  rintro e w6 ⟨rfl, rfl⟩
  clear HS HS4 HS5 hb24 hb25 hb5 hb2 hbw4
  go_wp2_with fail
  refine (join_any P m cap _ A C l w5 (HP.out.below hbw5 (Nat.le_refl _)) hbw5.size Hf.out.1 Hbk.out).mono ?_
  rintro e w7 ⟨A7, n7, c7, rfl, hn7, hc7, ho7, hb7⟩
  have hle7 : n7 ≤ 1048576 := by have := Hbk.out; omega
  have Hn7 : Hid (n7 = (cat l m).length) := hn7
  have HB7 : Hid (Bytes w7 w7.heap.size A7 (cat l m)) := owns_bytes ho7
  have hbw7 : Below w.heap.size w w7 := hbw5.trans (hb7.mono hbw5.size)
  clear hn7 ho7 hb7
  go_wp2_with fail
  refine (checksum64_any p A7 (cat l m) n7 c7 _ w7 Hn7.out (by omega) hc7 HB7.out (Nat.le_refl _)).mono ?_
  rw [← Hs.out]
  rintro e w8 ⟨rfl, hb8⟩
  have hbw8 : Below w.heap.size w w8 := hbw7.trans (hb8.mono hbw7.size)
  clear HB7 Hn7 hb8
  go_wp2_with fail
  refine (join_any P2 m2 cap2 _ A2 C2 l2 w8 (HP2.out.below hbw8 (Nat.le_refl _)) hbw8.size Hf2.out.1 Hbk2.out).mono ?_
  rintro e w9 ⟨A9, n9, c9, rfl, hn9, hc9, ho9, hb9⟩
  have hle9 : n9 ≤ 1048576 := by have := Hbk2.out; omega
  have Hn9 : Hid (n9 = (cat l2 m2).length) := hn9
  have HB9 : Hid (Bytes w9 w9.heap.size A9 (cat l2 m2)) := owns_bytes ho9
  have hbw9 : Below w.heap.size w w9 := hbw8.trans (hb9.mono hbw8.size)
  clear hn9 ho9 hb9
  go_wp2_with fail
  refine (checksum64_any p A9 (cat l2 m2) n9 c9 _ w9 Hn9.out (by omega) hc9 HB9.out (Nat.le_refl _)).mono ?_
  rw [← Ht.out]
  rintro e w10 ⟨rfl, hb10⟩
  have huv := u_beq s t
  go_wp2_with fail
  go_ret
  exact ⟨rfl, hbw9.trans (hb10.mono hbw9.size)⟩
end Go.Proofs.Ytocolnikidfbnaa
