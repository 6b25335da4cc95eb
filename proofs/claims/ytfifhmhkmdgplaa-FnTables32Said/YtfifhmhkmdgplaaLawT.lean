/- Walks of the laws on one table. -/
import Derived.Test.YtfifhmhkmdgplaaChecked
import Derived.Test.YtfifhmhkmdgplaaMake
import Derived.WalkKit
import Derived.LoopTactic
import Derived.Outline
import Derived.Deep.QuietTactic
import Derived.BigQuiet
namespace Go.Proofs.Ytfifhmhkmdgplaa
open Go.RowKit
theorem zero8_u : (0 : Int) = u (0#8) := rfl
theorem byte_same (p : BitVec 32) (i : Nat) (hi : i < 256) (w : World) : Calls Try.prog 20 #[.int .u32 (u p), .int .u32 (i : Int), .int .u8 0] w fun e w' => e = .returned (.int .u32 (u (Crc.T p 0 i))) ∧ w' = w := by
  have h := byte_any p (BitVec.ofNat 32 i) 0#8 w
  have e1 : u (BitVec.ofNat 32 i) = (i : Int) := (regI_zero p i hi).symm
  have e2 : Crc.byteReg p (BitVec.ofNat 32 i) 0#8 = Crc.T p 0 i := by
    unfold Crc.byteReg Crc.T
    simp
  rw [e1, e2, ← zero8_u] at h
  exact h.mono fun e w' ⟨a, b⟩ => ⟨a, b.symm⟩
set_option maxRecDepth 100000 in
theorem law_FnTable32 (p : BitVec 32) {w : World} :
    Calls Try.prog 4 #[.int .u32 (u p)] w fun e w' => e = .returned (.bool true) ∧ Below w.heap.size w w' := by
  go_enter Try.func4, Try.ntmps4
  go_wp2_with fail
  refine (table_any p _).mono ?_
  rintro e w1 ⟨g, cs, rfl, hB, hs, hT, hb, hg⟩
  clear hs
  go_wp2_with fail
  go_loopw [4] (fun i wr => ∃ k : Nat, k ≤ 256 ∧ i = .int .i64 k ∧ Below w1.heap.size w1 wr) (fun i _ => 256 - (intOf i).toNat)
  case atStart => exact ⟨0, by omega, rfl, Below.refl _ _⟩
  case round =>
    obtain ⟨k, hk, rfl, hbr⟩ := hrel
    by_cases hlt : k < 256
    · have hd : decide ((k : Int) < 256) = true := decide_eq_true (by omega)
      have hc : wr.cell? ⟨g, k, none⟩ = some (.int .u32 (u (Crc.T p 0 k))) := by rw [(hB.below hbr hB.lt).cell]; exact hT k hlt
      go_wp2_with fail
      go_quiet ((go_at_call 20; exact Calls.quiet_of_same (byte_same _ _ hlt _)))
      go_wp2
      go_roundw
      case rel => exact ⟨k + 1, by omega, by go_num, hbr.trans (below_drewN _ _ _)⟩
      case measure => simp [intOf]; omega
    · obtain rfl : k = 256 := by omega
      go_wp2
      go_ret
      exact ⟨rfl, hb.trans (hbr.mono hb.size)⟩
theorem T_xor (p : BitVec 32) (i k : BitVec 8) : Crc.T p 0 (u (i ^^^ k)).toNat = Crc.T p 0 (u i).toNat ^^^ Crc.T p 0 (u k).toNat := by
  have e : ∀ x : BitVec 8, BitVec.ofNat 32 (u x).toNat = x.setWidth 32 := fun x => by rw [u_toNat, BitVec.ofNat_toNat]
  unfold Crc.T
  rw [e, e, e, BitVec.setWidth_xor, Crc.steps_xor]
theorem T_zero (p : BitVec 32) : Crc.T p 0 0 = 0#32 := Crc.steps_zero p 8
theorem T_128 (p : BitVec 32) : Crc.T p 0 128 = p := by
  unfold Crc.T
  rw [show 8 * (0 + 1) = 7 + 1 from rfl, Crc.steps_add, show BitVec.ofNat 32 128 = 1#32 <<< 7 by decide, Crc.steps_shl, show (1#32 <<< 7) >>> 7 = 1#32 by decide]
  unfold Crc.steps Crc.steps Crc.step
  simp
set_option maxRecDepth 100000 in
set_option maxHeartbeats 1000000 in
theorem law_FnTableSums32 (p : BitVec 32) (i k : BitVec 8) {w : World} :
    Calls Try.prog 5 #[.int .u32 (u p), .int .u8 (u i), .int .u8 (u k)] w fun e w' => e = .returned (.bool true) ∧ Below w.heap.size w w' := by
  go_enter Try.func5, Try.ntmps5
  go_wp2_with fail
  refine (table_any p _).mono ?_
  rintro e w1 ⟨g, cs, rfl, hB, hs, hT, hb, hg⟩
  clear hs
  have lo1 := u_nonneg (i ^^^ k)
  have hi1 : u (i ^^^ k) < 256 := u_lt _
  have lo2 := u_nonneg i
  have hi2 : u i < 256 := u_lt _
  have lo3 := u_nonneg k
  have hi3 : u k < 256 := u_lt _
  have c1 : w1.cell? ⟨g, (u (i ^^^ k)).toNat, none⟩ = some (.int .u32 (u (Crc.T p 0 (u (i ^^^ k)).toNat))) := by rw [hB.cell]; exact hT _ (by omega)
  have c2 : w1.cell? ⟨g, (u i).toNat, none⟩ = some (.int .u32 (u (Crc.T p 0 (u i).toNat))) := by rw [hB.cell]; exact hT _ (by omega)
  have c3 : w1.cell? ⟨g, (u k).toNat, none⟩ = some (.int .u32 (u (Crc.T p 0 (u k).toNat))) := by rw [hB.cell]; exact hT _ (by omega)
  have c4 : w1.cell? ⟨g, 0, none⟩ = some (.int .u32 (u (Crc.T p 0 0))) := by rw [hB.cell]; exact hT _ (by omega)
  have c5 : w1.cell? ⟨g, 128, none⟩ = some (.int .u32 (u (Crc.T p 0 128))) := by rw [hB.cell]; exact hT _ (by omega)
  have t1 : (u (Crc.T p 0 (u (i ^^^ k)).toNat) == u (Crc.T p 0 (u i).toNat ^^^ Crc.T p 0 (u k).toNat)) = true := by rw [T_xor]; simp
  have t2 : (u (Crc.T p 0 0) == (0 : Int)) = true := by rw [T_zero]; rfl
  have t3 : (u (Crc.T p 0 128) == u p) = true := by rw [T_128]; simp
  clear hT
  go_wp2_with fail
  go_quiet (fail)
  go_wp2
  go_ret
  exact ⟨rfl, hb.trans (below_drewN _ _ _)⟩
end Go.Proofs.Ytfifhmhkmdgplaa
