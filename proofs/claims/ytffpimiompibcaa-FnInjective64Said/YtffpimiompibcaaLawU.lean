/- Walks of laws over Update64 and Checksum64. -/
import Derived.Test.YtffpimiompibcaaChecked
import Derived.Test.YtffpimiompibcaaUi
import Derived.Test.YtffpimiompibcaaUck
import Derived.Test.YtffpimiompibcaaSum
import Derived.WalkKit
import Derived.LoopTactic
namespace Go.Proofs.Ytffpimiompibcaa
open Go.RowKit
theorem law_FnExactUpdate64 (c p : BitVec 64) (a : Option Addr) (n cap : Nat) (l : List (BitVec 8)) (hn : n = l.length) {w : World} (hA : Bytes w w.heap.size a l) (hcap : n ≤ cap) :
    Calls Try.prog 9 #[.int .u64 (u c), .int .u64 (u p), .slice a n cap] w fun e w' => e = .returned (.bool true) ∧ Below w.heap.size w w' := by
  have Hn : Hid (n = l.length) := hn
  clear hn
  by_cases hbig : 2147483647 < n
  · go_enter Try.func9, Try.ntmps9
    go_wp2_with fail
    go_ret
    exact ⟨rfl, Below.refl _ _⟩
  · go_enter Try.func9, Try.ntmps9
    go_wp2_with fail
    refine (update64_any p c a l n cap _ w Hn.out (by omega) hcap hA (Nat.le_refl _)).mono ?_
    rintro e w1 ⟨rfl, hb⟩
    go_wp2_with fail
    refine (sum_any p c a l n cap _ w1 Hn.out (by omega) (hA.below hb (Nat.le_refl _))).mono ?_
    rintro e w2 ⟨rfl, rfl⟩
    go_wp2_with fail
    go_ret
    exact ⟨rfl, hb⟩
theorem law_FnExactNamed64 (c : BitVec 64) (a : Option Addr) (n cap : Nat) (l : List (BitVec 8)) (hn : n = l.length) {w : World} (hA : Bytes w w.heap.size a l) (hcap : n ≤ cap) :
    Calls Try.prog 8 #[.int .u64 (u c), .slice a n cap] w fun e w' => e = .returned (.bool true) ∧ Below w.heap.size w w' := by
  have Hn : Hid (n = l.length) := hn
  clear hn
  by_cases hbig : 2147483647 < n
  · go_enter Try.func8, Try.ntmps8
    go_wp2_with fail
    go_ret
    exact ⟨rfl, Below.refl _ _⟩
  · go_enter Try.func8, Try.ntmps8
    go_wp2_with fail
    rw [iso_u]
    refine (update64_any iso c a l n cap _ w Hn.out (by omega) hcap hA (Nat.le_refl _)).mono ?_
    rintro e w1 ⟨rfl, hb⟩
    have hA1 := hA.below hb (Nat.le_refl _)
    go_wp2_with fail
    rw [iso_u]
    refine (sum_any iso c a l n cap _ w1 Hn.out (by omega) hA1).mono ?_
    rintro e w2 ⟨rfl, rfl⟩
    go_wp2_with fail
    rw [ecma_u]
    refine (update64_any ecma c a l n cap _ w1 Hn.out (by omega) hcap hA1 hb.size).mono ?_
    rintro e w2 ⟨rfl, hb2⟩
    go_wp2_with fail
    rw [ecma_u]
    refine (sum_any ecma c a l n cap _ w2 Hn.out (by omega) (hA1.below hb2 hb.size)).mono ?_
    rintro e w3 ⟨rfl, rfl⟩
    go_wp2_with fail
    go_ret
    exact ⟨rfl, hb.trans (hb2.mono hb.size)⟩
theorem law_FnExactChecksum64 (p : BitVec 64) (a : Option Addr) (n cap : Nat) (l : List (BitVec 8)) (hn : n = l.length) {w : World} (hA : Bytes w w.heap.size a l) (hcap : n ≤ cap) :
    Calls Try.prog 11 #[.int .u64 (u p), .slice a n cap] w fun e w' => e = .returned (.bool true) ∧ Below w.heap.size w w' := by
  have Hn : Hid (n = l.length) := hn
  clear hn
  by_cases hbig : 2147483647 < n
  · go_enter Try.func11, Try.ntmps11
    go_wp2_with fail
    go_ret
    exact ⟨rfl, Below.refl _ _⟩
  · go_enter Try.func11, Try.ntmps11
    go_wp2_with fail
    refine (checksum64_any p a l n cap _ w Hn.out (by omega) hcap hA (Nat.le_refl _)).mono ?_
    rintro e w1 ⟨rfl, hb⟩
    have hA1 := hA.below hb (Nat.le_refl _)
    go_wp2_with fail
    rw [zero64_u]
    refine (sum_any p 0#64 a l n cap _ w1 Hn.out (by omega) hA1).mono ?_
    rintro e w2 ⟨rfl, rfl⟩
    go_wp2_with fail
    refine (checksum64_any p a l n cap _ w1 Hn.out (by omega) hcap hA1 hb.size).mono ?_
    rintro e w2 ⟨rfl, hb2⟩
    have hbb := hb.trans (hb2.mono hb.size)
    go_wp2_with fail
    rw [zero64_u]
    refine (update64_any p 0#64 a l n cap _ w2 Hn.out (by omega) hcap (hA1.below hb2 hb.size) hbb.size).mono ?_
    rintro e w3 ⟨rfl, hb3⟩
    go_wp2_with fail
    go_ret
    exact ⟨rfl, hbb.trans (hb3.mono hbb.size)⟩
theorem bytes_new1 (w : World) (t : TypeId) (b : BitVec 8) : Bytes (w.alloc (.cells #[.int .u8 (u b)] t)) (w.heap.size + 1) (some ⟨w.heap.size, 0, none⟩) [b] := by
  intro _
  refine ⟨_, _, rfl, by omega, fun j hj => ?_⟩
  have hj0 : j = 0 := by simpa using hj
  subst hj0
  exact (Blk.new w t #[.int .u8 (u b)]).cell 0
theorem law_FnBit64 (p : BitVec 64) (b : BitVec 8) {w : World} :
    Calls Try.prog 7 #[.int .u64 (u p), .int .u8 (u b)] w fun e w' => e = .returned (.bool true) ∧ Below w.heap.size w w' := by
  go_enter Try.func7, Try.ntmps7
  go_wp2_with fail
  rw [zero64_u]
  refine (update64_any p 0#64 _ [b] _ _ _ _ rfl (by simp) (by simp) (bytes_new1 w _ b) (by simp)).mono ?_
  rintro e w1 ⟨rfl, hb⟩
  have hb2 : Below w.heap.size w w1 := ((Below.refl _ _).alloc (Nat.le_refl _) _).trans (hb.mono (by simp))
  clear hb
  go_wp2_with fail
  rw [ones64_u]
  refine (byte_any p 18446744073709551615#64 b _).mono ?_
  rintro e w2 ⟨rfl, rfl⟩
  go_wp2_with fail
  go_ret
  exact ⟨ret_b (by rw [u_beq, beq_iff_eq]; rfl), hb2⟩
theorem or_msb (p : BitVec 64) : (p ||| 9223372036854775808#64).msb = true := by
  rw [BitVec.msb_or, show (9223372036854775808#64).msb = true by decide, Bool.or_true]
theorem inj64 (c d p : BitVec 64) (l : List (BitVec 8)) : (u (Crc.sum (p ||| 9223372036854775808#64) c l) == u (Crc.sum (p ||| 9223372036854775808#64) d l)) = (u c == u d) := by
  rw [u_beq, u_beq, Bool.eq_iff_iff, beq_iff_eq, beq_iff_eq]
  unfold Crc.sum
  rw [BitVec.not_inj, Crc.crcReg_inj _ _ _ _ (or_msb p), BitVec.not_inj]
theorem law_FnInjective64 (c d p : BitVec 64) (a : Option Addr) (n cap : Nat) (l : List (BitVec 8)) (hn : n = l.length) {w : World} (hA : Bytes w w.heap.size a l) (hcap : n ≤ cap) :
    Calls Try.prog 10 #[.int .u64 (u c), .int .u64 (u d), .int .u64 (u p), .slice a n cap] w fun e w' => e = .returned (.bool true) ∧ Below w.heap.size w w' := by
  have Hn : Hid (n = l.length) := hn
  clear hn
  by_cases hbig : 2147483647 < n
  · go_enter Try.func10, Try.ntmps10
    go_wp2_with fail
    go_ret
    exact ⟨rfl, Below.refl _ _⟩
  · go_enter Try.func10, Try.ntmps10
    go_wp2_with fail
    refine (update64_any _ c a l n cap _ w Hn.out (by omega) hcap hA (Nat.le_refl _)).mono ?_
    rintro e w1 ⟨rfl, hb⟩
    go_wp2_with fail
    refine (update64_any _ d a l n cap _ w1 Hn.out (by omega) hcap (hA.below hb (Nat.le_refl _)) hb.size).mono ?_
    rintro e w2 ⟨rfl, hb2⟩
    go_wp2_with fail
    go_ret
    exact ⟨ret_b (by rw [inj64, beq_self_eq_true]), hb.trans (hb2.mono hb.size)⟩
end Go.Proofs.Ytffpimiompibcaa
