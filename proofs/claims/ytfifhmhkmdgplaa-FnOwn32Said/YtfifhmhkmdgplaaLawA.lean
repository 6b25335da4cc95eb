/- Walks of laws over Sliced32: the law's text returns true. -/
import Derived.Test.YtfifhmhkmdgplaaChecked
import Derived.Test.YtfifhmhkmdgplaaImpl
import Derived.WalkKit
import Derived.LoopTactic
namespace Go.Proofs.Ytfifhmhkmdgplaa
open Go.RowKit
theorem law_FnExactSliced (c p : BitVec 32) (a : Option Addr) (n cap : Nat) (l : List (BitVec 8)) (hn : n = l.length) {w : World} (hA : Bytes w w.heap.size a l) (hcap : n ≤ cap) :
    Calls Try.prog 10 #[.int .u32 (u c), .int .u32 (u p), .slice a n cap] w fun e w' => e = .returned (.bool true) ∧ Below w.heap.size w w' := by
  have Hn : Hid (n = l.length) := hn
  clear hn
  by_cases hbig : 2147483647 < n
  · go_enter Try.func10, Try.ntmps10
    go_wp2_with fail
    go_ret
    exact ⟨rfl, Below.refl _ _⟩
  · go_enter Try.func10, Try.ntmps10
    go_wp2_with fail
    refine (sliced_any p c a l n cap _ w Hn.out (by omega) hcap hA (Nat.le_refl _)).mono ?_
    rintro e w1 ⟨rfl, hb⟩
    go_wp2_with fail
    refine (sum_any p c a l n cap _ w1 Hn.out (by omega) (hA.below hb (Nat.le_refl _))).mono ?_
    rintro e w2 ⟨rfl, rfl⟩
    go_wp2
    go_ret
    exact ⟨rfl, hb⟩
theorem bytes_new1 (w : World) (t : TypeId) (b : BitVec 8) : Bytes (w.alloc (.cells #[.int .u8 (u b)] t)) (w.heap.size + 1) (some ⟨w.heap.size, 0, none⟩) [b] := by
  intro _
  refine ⟨_, _, rfl, by omega, fun j hj => ?_⟩
  have hj0 : j = 0 := by simpa using hj
  subst hj0
  exact (Blk.new w t #[.int .u8 (u b)]).cell 0
theorem law_FnBit32 (p : BitVec 32) (b : BitVec 8) {w : World} :
    Calls Try.prog 8 #[.int .u32 (u p), .int .u8 (u b)] w fun e w' => e = .returned (.bool true) ∧ Below w.heap.size w w' := by
  go_enter Try.func8, Try.ntmps8
  go_wp2_with fail
  rw [zero_u]
  refine (sliced_any p 0#32 _ [b] _ _ _ _ rfl (by simp) (by simp) (bytes_new1 w _ b) (by simp)).mono ?_
  rintro e w1 ⟨rfl, hb⟩
  have hb2 : Below w.heap.size w w1 := ((Below.refl _ _).alloc (Nat.le_refl _) _).trans (hb.mono (by simp))
  clear hb
  go_wp2_with fail
  rw [ones_u]
  refine (byte_any p 4294967295#32 b _).mono ?_
  rintro e w2 ⟨rfl, rfl⟩
  go_wp2
  go_ret
  exact ⟨ret_b (by rw [u_beq, beq_iff_eq]; rfl), hb2⟩
theorem or_msb (p : BitVec 32) : (p ||| 2147483648#32).msb = true := by
  rw [BitVec.msb_or, show (2147483648#32).msb = true by decide, Bool.or_true]
theorem inj32 (c d p : BitVec 32) (l : List (BitVec 8)) : (u (Crc.sum (p ||| 2147483648#32) c l) == u (Crc.sum (p ||| 2147483648#32) d l)) = (u c == u d) := by
  rw [u_beq, u_beq, Bool.eq_iff_iff, beq_iff_eq, beq_iff_eq]
  unfold Crc.sum
  rw [BitVec.not_inj, Crc.crcReg_inj _ _ _ _ (or_msb p), BitVec.not_inj]
theorem law_FnInjective32 (c d p : BitVec 32) (a : Option Addr) (n cap : Nat) (l : List (BitVec 8)) (hn : n = l.length) {w : World} (hA : Bytes w w.heap.size a l) (hcap : n ≤ cap) :
    Calls Try.prog 11 #[.int .u32 (u c), .int .u32 (u d), .int .u32 (u p), .slice a n cap] w fun e w' => e = .returned (.bool true) ∧ Below w.heap.size w w' := by
  have Hn : Hid (n = l.length) := hn
  clear hn
  by_cases hbig : 2147483647 < n
  · go_enter Try.func11, Try.ntmps11
    go_wp2_with fail
    go_ret
    exact ⟨rfl, Below.refl _ _⟩
  · go_enter Try.func11, Try.ntmps11
    go_wp2_with fail
    refine (sliced_any _ c a l n cap _ w Hn.out (by omega) hcap hA (Nat.le_refl _)).mono ?_
    rintro e w1 ⟨rfl, hb⟩
    go_wp2_with fail
    refine (sliced_any _ d a l n cap _ w1 Hn.out (by omega) hcap (hA.below hb (Nat.le_refl _)) hb.size).mono ?_
    rintro e w2 ⟨rfl, hb2⟩
    go_wp2
    go_ret
    exact ⟨ret_b (by rw [inj32, beq_self_eq_true]), hb.trans (hb2.mono hb.size)⟩
theorem law_FnExactIEEE (c : BitVec 32) (a : Option Addr) (n cap : Nat) (l : List (BitVec 8)) (hn : n = l.length) {w : World} (hA : Bytes w w.heap.size a l) (hcap : n ≤ cap) :
    Calls Try.prog 16 #[.int .u32 (u c), .slice a n cap] w fun e w' => e = .returned (.bool true) ∧ Below w.heap.size w w' := by
  have Hn : Hid (n = l.length) := hn
  clear hn
  by_cases hbig : 2147483647 < n
  · go_enter Try.func16, Try.ntmps16
    go_wp2_with fail
    go_ret
    exact ⟨rfl, Below.refl _ _⟩
  · go_enter Try.func16, Try.ntmps16
    go_wp2_with fail
    refine (updateIEEE_any c a l n cap _ w Hn.out (by omega) hcap hA (Nat.le_refl _)).mono ?_
    rintro e w1 ⟨rfl, hb⟩
    go_wp2_with fail
    rw [ieee_u]
    refine (sum_any ieee c a l n cap _ w1 Hn.out (by omega) (hA.below hb (Nat.le_refl _))).mono ?_
    rintro e w2 ⟨rfl, rfl⟩
    go_wp2_with fail
    refine (checksumIEEE_any a l n cap _ w1 Hn.out (by omega) hcap (hA.below hb (Nat.le_refl _)) hb.size).mono ?_
    rintro e w2 ⟨rfl, hb2⟩
    go_wp2_with fail
    rw [ieee_u, zero_u]
    refine (sum_any ieee 0#32 a l n cap _ w2 Hn.out (by omega) ((hA.below hb (Nat.le_refl _)).below hb2 hb.size)).mono ?_
    rintro e w3 ⟨rfl, rfl⟩
    go_wp2
    go_ret
    exact ⟨rfl, hb.trans (hb2.mono hb.size)⟩
end Go.Proofs.Ytfifhmhkmdgplaa
