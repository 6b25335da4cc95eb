/- The law on bursts. -/
import Derived.Test.YtfifhmhkmdgplaaChecked
import Derived.Test.YtfifhmhkmdgplaaLawA
import Derived.Test.YtfifhmhkmdgplaaBurst
import Derived.WalkKit
import Derived.LoopTactic
namespace Go.Proofs.Ytfifhmhkmdgplaa
open Go.RowKit
theorem to64_32 (a : BitVec 32) : IntKind.u64.wrap (u a) = u (a.setWidth 64) := by
  have := a.isLt
  unfold u
  simp [IntKind.wrap, IntKind.bits, IntKind.signed]
theorem mask_hi (mask : BitVec 32) (i : Nat) (hi : 32 ≤ i) : (mask.setWidth 64).getLsbD i = false := by
  rw [BitVec.getLsbD_setWidth, BitVec.getLsbD_of_ge mask i hi]; simp
set_option maxRecDepth 100000 in
set_option maxHeartbeats 400000 in
theorem law_FnBurst32 (c p : BitVec 32) (a : Option Addr) (n cap : Nat) (l : List (BitVec 8)) (hn : n = l.length) {w : World} (hA : Bytes w w.heap.size a l) (hcap : n ≤ cap) (at_ : BitVec 16) (mask : BitVec 32) :
    Calls Try.prog 9 #[.int .u32 (u c), .int .u32 (u p), .slice a n cap, .int .u16 (u at_), .int .u32 (u mask)] w fun e w' => e = .returned (.bool true) ∧ Below w.heap.size w w' := by
  have Hn : Hid (n = l.length) := hn
  clear hn
  by_cases hbig : 2147483647 < n
  · go_enter Try.func9, Try.ntmps9
    go_wp2_with fail
    go_ret
    exact ⟨rfl, Below.refl _ _⟩
  obtain ⟨k, Hk⟩ : ∃ k : Nat, Hid (u at_ = (k : Int)) := ⟨at_.toNat, rfl⟩
  have hk : k ≤ 65535 := by have h1 : u at_ < 65536 := u_lt at_; have := Hk.out; omega
  rw [Hk.out]
  go_enter Try.func9, Try.ntmps9
  go_wp2_with fail
  rw [to64_32]
  refine (burst_any a l n cap Hn.out (by omega) k hk (mask.setWidth 64) w _ hA (Nat.le_refl _)).mono ?_
  rintro e w1 ⟨A1, c1, rfl, hc1, hA1, hb1⟩
  have Hl : Hid (n = (burstAt l k (mask.setWidth 64) 64).length) := by show n = _; rw [burstAt_length]; exact Hn.out
  have hlaw := burst_law (p ||| 2147483648#32) c (or_msb p) l k (mask.setWidth 64) (mask_hi mask)
  rw [← Hn.out] at hlaw
  rw [← hlaw]
  clear hlaw
  generalize burstAt l k (mask.setWidth 64) 64 = q at *
  go_wp2_with fail
  refine (sliced_any _ c A1 q n c1 _ w1 Hl.out (by omega) hc1 hA1 (Nat.le_refl _)).mono ?_
  rintro e w2 ⟨rfl, hb2⟩
  have hbb := hb1.trans (hb2.mono hb1.size)
  have hA2 := hA.below hbb (Nat.le_refl _)
  clear hb1 hb2 hA1
  go_wp2_with fail
  refine (sliced_any _ c a l n cap _ w2 Hn.out (by omega) hcap hA2 hbb.size).mono ?_
  rintro e w3 ⟨rfl, hb3⟩
  have hbc := hbb.trans (hb3.mono hbb.size)
  clear hb3 hA2
  go_wp2_with fail
  go_ret
  refine ⟨ret_b ?_, hbc⟩
  rw [u_bne, beq_self_eq_true]
end Go.Proofs.Ytfifhmhkmdgplaa
