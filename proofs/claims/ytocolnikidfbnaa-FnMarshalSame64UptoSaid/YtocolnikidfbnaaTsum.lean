/- The sum of a table: what tableSum returns is a number of the polynomial alone. -/
import Derived.Test.YtocolnikidfbnaaChecked
import Derived.Test.YtocolnikidfbnaaRoom
import Derived.Test.YtocolnikidfbnaaBe
import Derived.Test.YtocolnikidfbnaaUck
import Derived.WalkKit
import Derived.LoopTactic
namespace Go.Proofs.Ytocolnikidfbnaa
open Go.RowKit
/-- the bytes of k numbers of a table -/
def tabBytes (p : BitVec 64) : Nat → List (BitVec 8)
  | 0 => []
  | k + 1 => tabBytes p k ++ be8 (Crc.T p 0 k)
theorem tabBytes_length (p : BitVec 64) (k : Nat) : (tabBytes p k).length = 8 * k := by
  induction k with
  | zero => rfl
  | succ k ih => rw [tabBytes, List.length_append, ih]; simp [be8]; omega
/-- the sum of a polynomial's table -/
def tsum (p : BitVec 64) : BitVec 64 := Crc.sum iso 0#64 (tabBytes p 256)
theorem zero_2048 (w : World) : (zeroValue 74).run Try.prog w = .ok (.agg (Array.replicate 2048 (.int .u8 0))) w := by kernel_rfl
theorem filled_nil (k : Nat) : filled [] k = Array.replicate k (.int .u8 0) := by
  apply Array.ext'
  simp [filled]
theorem bytes_filled {w : World} {g : Nat} {t : TypeId} (l : List (BitVec 8)) (k : Nat) (h : Blk w g t (filled l k)) : Bytes w w.heap.size (some ⟨g, 0, none⟩) l := by
  intro _
  refine ⟨g, 0, rfl, h.lt, fun j hj => ?_⟩
  rw [Nat.zero_add, h.cell j]
  unfold filled
  rw [List.getElem?_toArray, List.getElem?_append_left (by simpa using hj)]
  exact nth_some hj
theorem bytes_be8 (w : World) (x : BitVec 64) : Bytes (w.alloc (be8Cells x)) (w.heap.size + 1) (some ⟨w.heap.size, 0, none⟩) (be8 x) := by
  intro _
  refine ⟨_, _, rfl, by omega, fun j hj => ?_⟩
  unfold be8Cells
  rw [Nat.zero_add, (Blk.new w 5 _).cell j, List.getElem?_toArray]
  exact nth_some hj
set_option maxRecDepth 100000 in
set_option maxHeartbeats 800000 in
theorem tsum_any (p : BitVec 64) (g0 : Nat) (w : World) (hT : TabAt w g0 p) (hg0 : g0 < w.heap.size) :
    Calls Try.prog 33 #[.pointer (some ⟨g0, 0, none⟩)] w (SumPost (tsum p) w) := by
  have hz := zero_2048
  have HT : Hid (TabAt w g0 p) := hT
  clear hT
  go_enter Try.func33, Try.ntmps33
  go_wp2_with fail
  clear hz
  obtain ⟨g, Hg⟩ : ∃ g, Hid (g = w.heap.size) := ⟨_, rfl⟩
  have hgb : w.heap.size ≤ g := by rw [Hg.out]; exact Nat.le_refl _
  have hB0 : Blk (w.alloc (.cells (Array.replicate 2048 (.int .u8 0)) 74)) g 74 (filled (tabBytes p 0) (2048 - 8 * 0)) := by
    rw [show filled (tabBytes p 0) (2048 - 8 * 0) = Array.replicate 2048 (.int .u8 0) from filled_nil 2048, Hg.out]; exact Blk.new _ _ _
  have hb0 : Below w.heap.size w (w.alloc (.cells (Array.replicate 2048 (.int .u8 0)) 74)) := (Below.refl _ _).alloc (Nat.le_refl _) _
  rw [← Hg.out]
  go_loopw [4, 6, 11] (fun b _ i wr => ∃ k : Nat, k ≤ 256 ∧ i = .int .i64 k ∧ b = .slice (some ⟨g, 0, none⟩) (8 * k) 2048 ∧ Blk wr g 74 (filled (tabBytes p k) (2048 - 8 * k)) ∧ Below w.heap.size w wr) (fun _ _ i _ => 256 - (intOf i).toNat)
  case atStart => exact ⟨0, by omega, rfl, rfl, hB0, hb0⟩
  case round =>
    clear hB0 hb0
    obtain ⟨k, hk, rfl, rfl, hB, hbel⟩ := hrel
    by_cases hlt : k < 256
    · have hd : decide ((k : Int) < 256) = true := decide_eq_true (by omega)
      have hct : wr.cell? ⟨g0, k, none⟩ = some (.int .u64 (u (Crc.T p 0 k))) := HT.out.below hbel hg0 k hlt
      have hB' : Blk (wr.alloc (be8Cells (Crc.T p 0 k))) g 74 (filled (tabBytes p k) ((be8 (Crc.T p 0 k)).length + (2048 - 8 * (k + 1)))) := by
        have e : (be8 (Crc.T p 0 k)).length + (2048 - 8 * (k + 1)) = 2048 - 8 * k := by
          rw [show (be8 (Crc.T p 0 k)).length = 8 from rfl]; omega
        rw [e]; exact hB.alloc _
      obtain ⟨w2, hr, hB2, hb2, hs2⟩ := room_slice (be8 (Crc.T p 0 k)) hB' 2048 _ _ 8 (8 * k) 8 (tabBytes_length p k).symm rfl (by omega) (bytes_be8 wr (Crc.T p 0 k)) (by omega)
      have hbel2 : Below w.heap.size w w2 := (hbel.alloc hbel.size _).trans (hb2.mono hgb)
      clear hB' hb2 hs2
      have Hr : Hid _ := hr
      clear hr
      go_wp2_with fail
      refine (beApp_run (Crc.T p 0 k) _ _ _ _ _ _ _ _ Hr.out).mono ?_
      rintro e w3 ⟨rfl, rfl⟩
      clear Hr
      go_wp2_with fail
      go_roundw
      case rel => exact ⟨k + 1, by omega, by go_num, rfl, hB2, hbel2⟩
      case measure => simp [intOf]; omega
    · obtain rfl : k = 256 := by omega
      have hd : decide ((256 : Int) < 256) = false := by decide
      go_wp2_with fail
      rw [iso_u]
      refine (mt_any iso _).mono ?_
      rintro e w3 ⟨g3, rfl, hT3, hlt3, hg3, hb3⟩
      go_wp2_with fail
      refine (pubChecksum_any iso g3 _ (tabBytes p 256) 2048 2048 wr.heap.size w3 (tabBytes_length p 256).symm (by omega) (by omega) ((bytes_filled _ _ hB).below hb3 (Nat.le_refl _)) hT3 hlt3 hb3.size).mono ?_
      rintro e w4 ⟨rfl, hb4⟩
      go_wp2_with fail
      go_ret
      exact ⟨rfl, hbel.trans ((hb3.trans (hb4.mono hb3.size)).mono hbel.size)⟩
end Go.Proofs.Ytocolnikidfbnaa
