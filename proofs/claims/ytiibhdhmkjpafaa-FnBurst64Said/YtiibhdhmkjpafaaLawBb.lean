/- The law on bursts. -/
import Derived.Test.YtiibhdhmkjpafaaChecked
import Derived.Test.YtiibhdhmkjpafaaUi
import Derived.Test.YtiibhdhmkjpafaaBurst
import Derived.WalkKit
import Derived.LoopTactic
namespace Go.Proofs.Ytiibhdhmkjpafaa
open Go.RowKit
theorem mask_hi (mask : BitVec 64) (i : Nat) (hi : 64 ≤ i) : mask.getLsbD i = false := BitVec.getLsbD_of_ge mask i hi
theorem or_msb (p : BitVec 64) : (p ||| 9223372036854775808#64).msb = true := by
  rw [BitVec.msb_or, show (9223372036854775808#64).msb = true by decide, Bool.or_true]
set_option maxRecDepth 100000 in
set_option maxHeartbeats 400000 in
theorem law_FnBurst64 (c p : BitVec 64) (a : Option Addr) (n cap : Nat) (l : List (BitVec 8)) (hn : n = l.length) {w : World} (hA : Bytes w w.heap.size a l) (hcap : n ≤ cap) (at_ : BitVec 16) (mask : BitVec 64) :
    Calls Try.prog 3 #[.int .u64 (u c), .int .u64 (u p), .slice a n cap, .int .u16 (u at_), .int .u64 (u mask)] w fun e w' => e = .returned (.bool true) ∧ Below w.heap.size w w' := by
  have Hn : Hid (n = l.length) := hn
  clear hn
  by_cases hbig : 2147483647 < n
  · go_enter Try.func3, Try.ntmps3
    go_wp2_with fail
    go_ret
    exact ⟨rfl, Below.refl _ _⟩
  obtain ⟨k, Hk⟩ : ∃ k : Nat, Hid (u at_ = (k : Int)) := ⟨at_.toNat, rfl⟩
  have hk : k ≤ 65535 := by have h1 : u at_ < 65536 := u_lt at_; have := Hk.out; omega
  rw [Hk.out]
  go_enter Try.func3, Try.ntmps3
  go_wp2_with fail
  refine (burst_any a l n cap Hn.out (by omega) k hk mask w _ hA (Nat.le_refl _)).mono ?_
  rintro e w1 ⟨A1, c1, rfl, hc1, hA1, hb1⟩
  have Hl : Hid (n = (burstAt l k mask 64).length) := by show n = _; rw [burstAt_length]; exact Hn.out
  have hlaw := burst_law (p ||| 9223372036854775808#64) c (or_msb p) l k mask (mask_hi mask)
  rw [← Hn.out] at hlaw
  rw [← hlaw]
  clear hlaw
  generalize burstAt l k mask 64 = q at *
  go_wp2_with fail
  refine (update64_any _ c A1 q n c1 _ w1 Hl.out (by omega) hc1 hA1 (Nat.le_refl _)).mono ?_
  rintro e w2 ⟨rfl, hb2⟩
  have hbb := hb1.trans (hb2.mono hb1.size)
  have hA2 := hA.below hbb (Nat.le_refl _)
  clear hb1 hb2 hA1
  go_wp2_with fail
  refine (update64_any _ c a l n cap _ w2 Hn.out (by omega) hcap hA2 hbb.size).mono ?_
  rintro e w3 ⟨rfl, hb3⟩
  have hbc := hbb.trans (hb3.mono hbb.size)
  clear hb3 hA2
  go_wp2_with fail
  go_ret
  refine ⟨ret_b ?_, hbc⟩
  rw [u_bne, beq_self_eq_true]
end Go.Proofs.Ytiibhdhmkjpafaa
