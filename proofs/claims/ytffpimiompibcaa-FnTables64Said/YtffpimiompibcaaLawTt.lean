/- Walks of the laws on one table. -/
import Derived.Test.YtffpimiompibcaaChecked
import Derived.Test.YtffpimiompibcaaMt
import Derived.WalkKit
import Derived.LoopTactic
import Derived.Deep.QuietTactic
import Derived.BigQuiet
namespace Go.Proofs.Ytffpimiompibcaa
open Go.RowKit
theorem zero8_u : (0 : Int) = u (0#8) := rfl
theorem byte_same (p : BitVec 64) (i : Nat) (hi : i < 256) (w : World) : Calls Try.prog 13 #[.int .u64 (u p), .int .u64 (i : Int), .int .u8 0] w fun e w' => e = .returned (.int .u64 (u (Crc.T p 0 i))) ∧ w' = w := by
  have h := byte_any p (BitVec.ofNat 64 i) 0#8 w
  have e1 : u (BitVec.ofNat 64 i) = (i : Int) := (regI_zero p i hi).symm
  have e2 : Crc.byteReg p (BitVec.ofNat 64 i) 0#8 = Crc.T p 0 i := by
    unfold Crc.byteReg Crc.T
    simp
  rw [e1, e2, ← zero8_u] at h
  exact h.mono fun e w' ⟨a, b⟩ => ⟨a, b.symm⟩
set_option maxRecDepth 100000 in
theorem law_FnTable64 (p : BitVec 64) {w : World} :
    Calls Try.prog 4 #[.int .u64 (u p)] w fun e w' => e = .returned (.bool true) ∧ Below w.heap.size w w' := by
  go_enter Try.func4, Try.ntmps4
  go_wp2_with fail
  refine (table_any p _).mono ?_
  rintro e w1 ⟨g, rfl, hT, hgl, hg, hb⟩
  have HT : Hid (TabAt w1 g p) := hT
  clear hT
  go_wp2_with fail
  go_loopw [4] (fun i wr => ∃ k : Nat, k ≤ 256 ∧ i = .int .i64 k ∧ Below w1.heap.size w1 wr) (fun i _ => 256 - (intOf i).toNat)
  case atStart => exact ⟨0, by omega, rfl, Below.refl _ _⟩
  case round =>
    obtain ⟨k, hk, rfl, hbr⟩ := hrel
    by_cases hlt : k < 256
    · have hd : decide ((k : Int) < 256) = true := decide_eq_true (by omega)
      have hc : wr.cell? ⟨g, k, none⟩ = some (.int .u64 (u (Crc.T p 0 k))) := (HT.out.below hbr hgl) k hlt
      go_wp2_with fail
      go_quiet ((go_at_call 13; exact Calls.quiet_of_same (byte_same _ _ hlt _)))
      go_wp2
      go_roundw
      case rel => exact ⟨k + 1, by omega, by go_num, hbr.trans (below_drewN _ _ _)⟩
      case measure => simp [intOf]; omega
    · obtain rfl : k = 256 := by omega
      go_wp2
      go_ret
      exact ⟨rfl, hb.trans (hbr.mono hb.size)⟩
theorem T_xor (p : BitVec 64) (i k : BitVec 8) : Crc.T p 0 (u (i ^^^ k)).toNat = Crc.T p 0 (u i).toNat ^^^ Crc.T p 0 (u k).toNat := by
  have e : ∀ x : BitVec 8, BitVec.ofNat 64 (u x).toNat = x.setWidth 64 := fun x => by rw [u_toNat, BitVec.ofNat_toNat]
  unfold Crc.T
  rw [e, e, e, BitVec.setWidth_xor, Crc.steps_xor]
theorem T_zero (p : BitVec 64) : Crc.T p 0 0 = 0#64 := Crc.steps_zero p 8
theorem T_128 (p : BitVec 64) : Crc.T p 0 128 = p := by
  unfold Crc.T
  rw [show 8 * (0 + 1) = 7 + 1 from rfl, Crc.steps_add, show BitVec.ofNat 64 128 = 1#64 <<< 7 by decide, Crc.steps_shl, show (1#64 <<< 7) >>> 7 = 1#64 by decide]
  unfold Crc.steps Crc.steps Crc.step
  simp
set_option maxRecDepth 100000 in
set_option maxHeartbeats 1000000 in
theorem law_FnTableSums64 (p : BitVec 64) (i k : BitVec 8) {w : World} :
    Calls Try.prog 5 #[.int .u64 (u p), .int .u8 (u i), .int .u8 (u k)] w fun e w' => e = .returned (.bool true) ∧ Below w.heap.size w w' := by
  go_enter Try.func5, Try.ntmps5
  go_wp2_with fail
  refine (table_any p _).mono ?_
  rintro e w1 ⟨g, rfl, hT, hgl, hg, hb⟩
  have lo1 := u_nonneg (i ^^^ k)
  have hi1 : u (i ^^^ k) < 256 := u_lt _
  have lo2 := u_nonneg i
  have hi2 : u i < 256 := u_lt _
  have lo3 := u_nonneg k
  have hi3 : u k < 256 := u_lt _
  have c1 : w1.cell? ⟨g, (u (i ^^^ k)).toNat, none⟩ = some (.int .u64 (u (Crc.T p 0 (u (i ^^^ k)).toNat))) := hT _ (by omega)
  have c2 : w1.cell? ⟨g, (u i).toNat, none⟩ = some (.int .u64 (u (Crc.T p 0 (u i).toNat))) := hT _ (by omega)
  have c3 : w1.cell? ⟨g, (u k).toNat, none⟩ = some (.int .u64 (u (Crc.T p 0 (u k).toNat))) := hT _ (by omega)
  have c4 : w1.cell? ⟨g, 0, none⟩ = some (.int .u64 (u (Crc.T p 0 0))) := hT _ (by omega)
  have c5 : w1.cell? ⟨g, 128, none⟩ = some (.int .u64 (u (Crc.T p 0 128))) := hT _ (by omega)
  have t1 : (u (Crc.T p 0 (u (i ^^^ k)).toNat) == u (Crc.T p 0 (u i).toNat ^^^ Crc.T p 0 (u k).toNat)) = true := by rw [T_xor]; simp
  have t2 : (u (Crc.T p 0 0) == (0 : Int)) = true := by rw [T_zero]; rfl
  have t3 : (u (Crc.T p 0 128) == u p) = true := by rw [T_128]; simp
  clear hT
  go_wp2_with fail
  go_quiet (fail)
  go_wp2
  go_ret
  exact ⟨rfl, hb.trans (below_drewN _ _ _)⟩
set_option maxRecDepth 100000 in
theorem law_FnTwoTables64 (p : BitVec 64) {w : World} :
    Calls Try.prog 6 #[.int .u64 (u p)] w fun e w' => e = .returned (.bool true) ∧ Below w.heap.size w w' := by
  go_enter Try.func6, Try.ntmps6
  go_wp2_with fail
  refine (table_any p _).mono ?_
  rintro e w1 ⟨g, rfl, hT, hgl, hg, hb⟩
  go_wp2_with fail
  refine (simple_any p _).mono ?_
  rintro e w2 ⟨g2, rfl, hT2, hgl2, hg2, hb2⟩
  have HT : Hid (TabAt w2 g p) := hT.below hb2 hgl
  have HT2 : Hid (TabAt w2 g2 p) := hT2
  have hlt2 : g < w2.heap.size := Nat.lt_of_lt_of_le hgl hb2.size
  have hbb := hb.trans (hb2.mono hb.size)
  clear hT hT2 hb hb2
  go_wp2_with fail
  go_loopw [5] (fun i wr => ∃ k : Nat, k ≤ 256 ∧ i = .int .i64 k ∧ Below w2.heap.size w2 wr) (fun i _ => 256 - (intOf i).toNat)
  case atStart => exact ⟨0, by omega, rfl, Below.refl _ _⟩
  case round =>
    obtain ⟨k, hk, rfl, hbr⟩ := hrel
    by_cases hlt : k < 256
    · have hd : decide ((k : Int) < 256) = true := decide_eq_true (by omega)
      have hc : wr.cell? ⟨g, k, none⟩ = some (.int .u64 (u (Crc.T p 0 k))) := (HT.out.below hbr hlt2) k hlt
      have hc2 : wr.cell? ⟨g2, k, none⟩ = some (.int .u64 (u (Crc.T p 0 k))) := (HT2.out.below hbr hgl2) k hlt
      have i1 : (k : Int) < 256 := by omega
      have i2 : (0 : Int) ≤ (k : Int) := by omega
      go_wp2_with fail
      go_quiet (fail)
      go_wp2
      go_roundw
      case rel => exact ⟨k + 1, by omega, by go_num, hbr.trans (below_drewN _ _ _)⟩
      case measure => simp [intOf]; omega
    · obtain rfl : k = 256 := by omega
      go_wp2_with fail
      go_ret
      exact ⟨rfl, hbb.trans (hbr.mono hbb.size)⟩
end Go.Proofs.Ytffpimiompibcaa
