/- The digest's state: AppendBinary, MarshalBinary. -/
import Derived.Test.YtocolnikidfbnaaChecked
import Derived.Test.YtocolnikidfbnaaWr
import Derived.Test.YtocolnikidfbnaaTsum
import Derived.Test.YtocolnikidfbnaaDig
import Derived.WalkKit
import Derived.LoopTactic
namespace Go.Proofs.Ytocolnikidfbnaa
open Go.RowKit
/-- the state of a digest -/
def state (p c : BitVec 64) : List (BitVec 8) := magic ++ be8 (tsum p) ++ be8 c
theorem state_length (p c : BitVec 64) : (state p c).length = 20 := by simp [state, magic, be8]
/-- what AppendBinary leaves in a block of twenty zeros -/
def AbPost (p c : BitVec 64) (G : Nat) (w : World) (e : Ending) (w' : World) : Prop := e = .returned (.tuple #[.slice (some ⟨G, 0, none⟩) 20 20, Value.nilIface]) ∧ Blk w' G 5 (filled (state p c) 0) ∧ Below G w w'
set_option maxRecDepth 100000 in
set_option maxHeartbeats 1000000 in
theorem appendBinary_any (p c : BitVec 64) (D g G : Nat) (w : World) (hD : Dig w D g p c) (hG : Blk w G 5 (filled [] 20)) (hDG : D < G) :
    Calls Try.prog 29 #[.pointer (some ⟨D, 0, none⟩), .slice (some ⟨G, 0, none⟩) 0 20] w (AbPost p c G w) := by
  obtain ⟨w1, hr1, hB1, hb1, hs1⟩ := room_magic (k := 16) hG 20 (by omega)
  have hD1 := hD.below hb1 hDG
  have h1 := hD1.c1
  have HD1 : Hid (Dig w1 D g p c) := hD1
  have Hr1 : Hid _ := hr1
  clear hD hG hs1 hr1 hD1
  go_enter Try.func29, Try.ntmps29
  go_wp2_with (at_builtin; refine wpList_run_append rfl _ _ _ _ rfl rfl rfl Hr1.out ?_)
  have HB1 : Hid (Blk w1 G 5 (filled magic 16)) := hB1
  clear hB1 h1
  refine (tsum_any p g w1 HD1.out.2.1 (Nat.lt_trans HD1.out.2.2 HD1.out.lt)).mono ?_
  rintro e w2 ⟨rfl, hb2⟩
  have hB2 : Blk (w2.alloc (be8Cells (tsum p))) G 5 (filled magic ((be8 (tsum p)).length + 8)) := (HB1.out.below hb2 HB1.out.lt).alloc _
  have hD2 := HD1.out.below hb2 HD1.out.lt
  obtain ⟨w3, hr3, hB3, hb3, hs3⟩ := room_slice (be8 (tsum p)) hB2 20 _ _ 8 4 8 rfl rfl (by omega) (bytes_be8 w2 (tsum p)) (by omega)
  have hG2 : G ≤ w2.heap.size := by have := HB1.out.lt; have := hb2.size; omega
  have hb23 : Below G w2 w3 := ((Below.refl G w2).alloc hG2 _).trans hb3
  have hD3 := hD2.below hb23 hDG
  have h3 := hD3.c0
  have hb13 : Below G w w3 := (hb1.trans (hb2.mono (Nat.le_of_lt HB1.out.lt))).trans hb23
  have HB3 : Hid (Blk w3 G 5 (filled (magic ++ be8 (tsum p)) 8)) := hB3
  have Hr3 : Hid _ := hr3
  clear hD2 hD3 hB2 hB3 hr3 hs3 hb3 hb23 hG2 HB1 HD1 Hr1
  go_wp2_with fail
  refine (beApp_run (tsum p) _ _ _ _ _ _ _ _ Hr3.out).mono ?_
  rintro e w3' ⟨rfl, rfl⟩
  clear Hr3
  go_wp2_with fail
  have hB4 : Blk (w3'.alloc (be8Cells c)) G 5 (filled (magic ++ be8 (tsum p)) ((be8 c).length + 0)) := HB3.out.alloc _
  obtain ⟨w4, hr4, hB4', hb4, hs4⟩ := room_slice (be8 c) hB4 20 _ _ 8 12 8 rfl rfl (by omega) (bytes_be8 w3' c) (by omega)
  have hb34 : Below G w w4 := (hb13.alloc (Nat.le_of_lt HB3.out.lt) _).trans hb4
  have HB4 : Hid (Blk w4 G 5 (filled (state p c) 0)) := hB4'
  clear hB4 hB4' hb4 hs4 h3
  refine (beApp_run c _ _ _ _ _ _ _ _ hr4).mono ?_
  rintro e w4' ⟨rfl, rfl⟩
  clear hr4
  go_wp2_with fail
  go_ret2
  exact ⟨rfl, HB4.out, hb34⟩
theorem make20 (w : World) : (Instr.makeSlice 25 (.int .i64 0) (.int .i64 20)).run Try.prog w = .ok (.slice (some ⟨w.heap.size, 0, none⟩) 0 20) (w.alloc (.cells (filled [] 20) 5)) := by
  rw [filled_nil]; kernel_rfl
/-- what MarshalBinary leaves -/
def MbPost (l : List (BitVec 8)) (w : World) (e : Ending) (w' : World) : Prop := ∃ G, e = .returned (.tuple #[.slice (some ⟨G, 0, none⟩) 20 20, Value.nilIface]) ∧ Bytes w' w'.heap.size (some ⟨G, 0, none⟩) l ∧ Below w.heap.size w w'
theorem marshalBinary_any (p c : BitVec 64) (D g : Nat) (w : World) (hD : Dig w D g p c) :
    Calls Try.prog 21 #[.pointer (some ⟨D, 0, none⟩)] w (MbPost (state p c) w) := by
  have hmk := make20
  go_enter Try.func21, Try.ntmps21
  go_wp2_with fail
  clear hmk
  refine (appendBinary_any p c D g w.heap.size _ (hD.below ((Below.refl w.heap.size w).alloc (Nat.le_refl _) _) hD.lt) (Blk.new _ _ _) hD.lt).mono ?_
  rintro e w1 ⟨rfl, hB, hb⟩
  go_wp2_with fail
  go_ret2
  exact ⟨_, rfl, bytes_filled _ _ hB, ((Below.refl w.heap.size w).alloc (Nat.le_refl _) _).trans hb⟩
end Go.Proofs.Ytocolnikidfbnaa
