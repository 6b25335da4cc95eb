/- A new table of 64 bits: what makeTable makes. -/
import Derived.Test.YtocolnikidfbnaaChecked
import Derived.Test.YtocolnikidfbnaaBase
import Derived.Test.YtocolnikidfbnaaPlain
import Derived.Test.YtocolnikidfbnaaMem
import Derived.WalkKit
import Derived.LoopTactic
import Derived.KernelRfl
namespace Go.Proofs.Ytocolnikidfbnaa
open Go.RowKit
/-- the first n cells are a table's entries -/
def Tab (p : BitVec 64) (n : Nat) (cs : Array Value) : Prop := ∀ i, i < n → cs[i]? = some (.int .u64 (u (Crc.T p 0 i)))
theorem Tab.put {p : BitVec 64} {n : Nat} {cs : Array Value} (h : Tab p n cs) (hn : n < cs.size) : Tab p (n + 1) (cs.setIfInBounds n (.int .u64 (u (Crc.T p 0 n)))) := by
  intro i hi
  rw [Array.getElem?_setIfInBounds]
  by_cases e : n = i
  · subst e; simp [hn]
  · rw [if_neg e]; exact h i (by omega)
/-- eight steps of a number, in the midst -/
def regI (p : BitVec 64) (i j : Nat) : BitVec 64 := Crc.steps p j (BitVec.ofNat 64 i)
theorem regI_t (p : BitVec 64) (i j : Nat) (h : odd (regI p i j) = true) : regI p i j >>> 1 ^^^ p = regI p i (j + 1) := by
  unfold regI at h ⊢
  rw [Crc.steps_succ']; unfold odd at h; unfold Crc.step; rw [h]; rfl
theorem regI_f (p : BitVec 64) (i j : Nat) (h : odd (regI p i j) = false) : regI p i j >>> 1 = regI p i (j + 1) := by
  unfold regI at h ⊢
  rw [Crc.steps_succ']; unfold odd at h; unfold Crc.step; rw [h]; simp
theorem regI_last (p : BitVec 64) (i : Nat) : regI p i 8 = Crc.T p 0 i := rfl
theorem regI_zero (p : BitVec 64) (i : Nat) (h : i < 256) : (i : Int) = u (regI p i 0) := by
  unfold regI Crc.steps u
  rw [BitVec.toNat_ofNat, Nat.mod_eq_of_lt (Nat.lt_of_lt_of_le h (by decide))]
/-- a new table's cells -/
def zeroCells (n : Nat) : Array Value := Array.replicate n (.int .u64 0)
theorem zeroCells_size (n : Nat) : (zeroCells n).size = n := by simp [zeroCells]
theorem zero_table (w : World) : (zeroValue 56).run Try.prog w = .ok (.agg (zeroCells 256)) w := by kernel_rfl
theorem zero_tables (w : World) : (zeroValue 70).run Try.prog w = .ok (.agg (zeroCells 2048)) w := by kernel_rfl
/-- what makeTable leaves: a new block, its cells a table -/
def TabPost (p : BitVec 64) (w : World) (e : Ending) (w' : World) : Prop := ∃ g cs, e = .returned (.pointer (some ⟨g, 0, none⟩)) ∧ Blk w' g 56 cs ∧ cs.size = 256 ∧ Tab p 256 cs ∧ Below w.heap.size w w' ∧ w.heap.size ≤ g
set_option maxRecDepth 100000 in
set_option maxHeartbeats 400000 in
theorem make_any (p : BitVec 64) (w : World) : Calls Try.prog 24 #[.int .u64 (u p)] w (TabPost p w) := by
  have hz := zero_table
  go_enter Try.func24, Try.ntmps24
  go_wp2_with fail
  clear hz
  obtain ⟨g, Hg⟩ : ∃ g, Hid (g = w.heap.size) := ⟨_, rfl⟩
  have hgb : w.heap.size ≤ g := by rw [Hg.out]; exact Nat.le_refl _
  have hB0 : Blk (w.alloc (.cells (zeroCells 256) 56)) g 56 (zeroCells 256) := by rw [Hg.out]; exact Blk.new _ _ _
  have hb0 : Below w.heap.size w (w.alloc (.cells (zeroCells 256) 56)) := (Below.refl _ _).alloc (Nat.le_refl _) _
  rw [← Hg.out]
  go_loopw [4, 5, 6] (fun i _ _ wr => ∃ k : Nat, ∃ cs', k ≤ 256 ∧ i = .int .i64 k ∧ Blk wr g 56 cs' ∧ Hid (cs'.size = 256) ∧ Tab p k cs' ∧ Below w.heap.size w wr) (fun i _ _ _ => 256 - (intOf i).toNat)
  case atStart => exact ⟨0, zeroCells 256, by omega, rfl, hB0, zeroCells_size _, fun i hi => absurd hi (by omega), hb0⟩
  case round =>
    clear hB0 hb0
    obtain ⟨k, cs', hk, rfl, hB', Hs, hT, hbel⟩ := hrel
    by_cases hlt : k < 256
    · have hd : decide ((k : Int) < 256) = true := decide_eq_true (by omega)
      go_wp2_with fail
      obtain ⟨wo, rfl⟩ : ∃ wo : World, wo = wr := ⟨_, rfl⟩
      go_loop [5, 6] (fun r i => ∃ j : Nat, j ≤ 8 ∧ i = .int .i64 j ∧ r = .int .u64 (u (regI p k j))) (fun _ i => 8 - (intOf i).toNat)
      case atStart => exact ⟨0, by omega, rfl, by rw [← regI_zero p k hlt]⟩
      case round =>
        obtain ⟨j, hj, rfl, rfl⟩ := hrel
        by_cases hlt2 : j < 8
        · have hd2 : decide ((j : Int) < 8) = true := decide_eq_true (by omega)
          cases ho : odd (regI p k j) with
          | true =>
            go_wp2_with fail
            go_round
            case rel => exact ⟨j + 1, by omega, by go_num, by rw [regI_t p k j ho]⟩
            case measure => simp [intOf]; omega
          | false =>
            go_wp2_with fail
            go_round
            case rel => exact ⟨j + 1, by omega, by go_num, by rw [regI_f p k j ho]⟩
            case measure => simp [intOf]; omega
        · obtain rfl : j = 8 := by omega
          obtain ⟨v, hv⟩ : ∃ v, wo.cell? ⟨g, k, none⟩ = some v := by rw [hB'.cell]; exact ⟨_, Array.getElem?_eq_getElem (by rw [Hs.out]; exact hlt)⟩
          have hf := hB'.free k
          rw [regI_last]
          go_wp2_with fail
          go_roundw
          case rel => exact ⟨k + 1, _, by omega, by go_num, hB'.put k _, by show _ = _; rw [Array.size_setIfInBounds]; exact Hs.out, hT.put (by rw [Hs.out]; exact hlt), hbel.setCell (p := ⟨g, k, none⟩) hgb _⟩
          case measure => simp [intOf]; omega
    · obtain rfl : k = 256 := by omega
      go_wp2_with fail
      go_ret
      exact ⟨g, cs', rfl, hB', Hs.out, hT, hbel, hgb⟩
end Go.Proofs.Ytocolnikidfbnaa
