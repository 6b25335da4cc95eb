/- What simplePopulateTable writes: the entries of a table. -/
import Derived.Test.YtfifhmhkmdgplaaChecked
import Derived.Test.YtfifhmhkmdgplaaBase
import Derived.Test.YtfifhmhkmdgplaaPlain
import Derived.Test.YtfifhmhkmdgplaaMem
import Derived.Test.YtfifhmhkmdgplaaReg
import Derived.WalkKit
import Derived.Outline
import Derived.LoopTactic
namespace Go.Proofs.Ytfifhmhkmdgplaa
open Go.RowKit
/-- the first n cells are a table's entries -/
def Tab (p : BitVec 32) (n : Nat) (cs : Array Value) : Prop := ∀ i, i < n → cs[i]? = some (.int .u32 (u (Crc.T p 0 i)))
theorem Tab.put {p : BitVec 32} {n : Nat} {cs : Array Value} (h : Tab p n cs) (hn : n < cs.size) : Tab p (n + 1) (cs.setIfInBounds n (.int .u32 (u (Crc.T p 0 n)))) := by
  intro i hi
  rw [Array.getElem?_setIfInBounds]
  by_cases e : n = i
  · subst e; simp [hn]
  · rw [if_neg e]; exact h i (by omega)
/-- eight steps of a number, in the midst -/
def regI (p : BitVec 32) (i j : Nat) : BitVec 32 := Crc.steps p j (BitVec.ofNat 32 i)
theorem regI_t (p : BitVec 32) (i j : Nat) (h : odd (regI p i j) = true) : regI p i j >>> 1 ^^^ p = regI p i (j + 1) := by
  unfold regI at h ⊢
  rw [Crc.steps_succ']; unfold odd at h; unfold Crc.step; rw [h]; rfl
theorem regI_f (p : BitVec 32) (i j : Nat) (h : odd (regI p i j) = false) : regI p i j >>> 1 = regI p i (j + 1) := by
  unfold regI at h ⊢
  rw [Crc.steps_succ']; unfold odd at h; unfold Crc.step; rw [h]; simp
theorem regI_last (p : BitVec 32) (i : Nat) : regI p i 8 = Crc.T p 0 i := rfl
theorem regI_zero (p : BitVec 32) (i : Nat) (h : i < 256) : (i : Int) = u (regI p i 0) := by
  unfold regI Crc.steps u
  rw [BitVec.toNat_ofNat, Nat.mod_eq_of_lt (Nat.lt_of_lt_of_le h (by decide))]
set_option maxRecDepth 100000 in
set_option maxHeartbeats 400000 in
theorem populate (p : BitVec 32) (g : Nat) (t : TypeId) (cs : Array Value) (w : World) (hB : Blk w g t cs) (hs : 256 ≤ cs.size) :
    Calls Try.prog 44 #[.int .u32 (u p), .pointer (some ⟨g, 0, none⟩)] w fun e w' => e = .returned (.tuple #[]) ∧ ∃ cs', Blk w' g t cs' ∧ cs'.size = cs.size ∧ Tab p 256 cs' ∧ Below g w w' := by
  go_enter Try.func44, Try.ntmps44
  go_wp2
  go_loopw [4, 5, 6] (fun i _ _ wr => ∃ k : Nat, ∃ cs', k ≤ 256 ∧ i = .int .i64 k ∧ Blk wr g t cs' ∧ cs'.size = cs.size ∧ Tab p k cs' ∧ Below g w wr) (fun i _ _ _ => 256 - (intOf i).toNat)
  case atStart => exact ⟨0, cs, by omega, rfl, hB, rfl, fun i hi => absurd hi (by omega), Below.refl _ _⟩
  case round =>
    obtain ⟨k, cs', hk, rfl, hB', hs', hT, hbel⟩ := hrel
    have Hs : Hid (cs'.size = cs.size) := hs'
    have hs2 : 256 ≤ cs'.size := by omega
    clear hs'
    by_cases hlt : k < 256
    · have hd : decide ((k : Int) < 256) = true := decide_eq_true (by omega)
      go_wp2
      obtain ⟨wo, rfl⟩ : ∃ wo : World, wo = wr := ⟨_, rfl⟩
      go_loop [5, 6] (fun r i => ∃ j : Nat, j ≤ 8 ∧ i = .int .i64 j ∧ r = .int .u32 (u (regI p k j))) (fun _ i => 8 - (intOf i).toNat)
      case atStart => exact ⟨0, by omega, rfl, by rw [← regI_zero p k hlt]⟩
      case round =>
        obtain ⟨j, hj, rfl, rfl⟩ := hrel
        by_cases hlt2 : j < 8
        · have hd2 : decide ((j : Int) < 8) = true := decide_eq_true (by omega)
          cases ho : odd (regI p k j) with
          | true =>
            go_wp2
            go_round
            case rel => exact ⟨j + 1, by omega, by go_num, by rw [regI_t p k j ho]⟩
            case measure => simp [intOf]; omega
          | false =>
            go_wp2
            go_round
            case rel => exact ⟨j + 1, by omega, by go_num, by rw [regI_f p k j ho]⟩
            case measure => simp [intOf]; omega
        · obtain rfl : j = 8 := by omega
          obtain ⟨v, hv⟩ : ∃ v, wo.cell? ⟨g, k, none⟩ = some v := by rw [hB'.cell]; exact ⟨_, Array.getElem?_eq_getElem (by omega)⟩
          have hf := hB'.free k
          rw [regI_last]
          go_wp2
          go_roundw
          case rel => exact ⟨k + 1, _, by omega, by go_num, hB'.put k _, by rw [Array.size_setIfInBounds]; exact Hs.out, hT.put (by omega), hbel.setCell (p := ⟨g, k, none⟩) (Nat.le_refl _) _⟩
          case measure => simp [intOf]; omega
    · obtain rfl : k = 256 := by omega
      go_wp2
      go_end0
      exact ⟨rfl, cs', hB', Hs.out, hT, hbel⟩
end Go.Proofs.Ytfifhmhkmdgplaa
