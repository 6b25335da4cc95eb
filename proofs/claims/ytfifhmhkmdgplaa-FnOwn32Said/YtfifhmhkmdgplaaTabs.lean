/- The eight tables of slicing by 8: what slicingMakeTable makes. -/
import Derived.Test.YtfifhmhkmdgplaaChecked
import Derived.Test.YtfifhmhkmdgplaaMake
import Derived.WalkKit
import Derived.Outline
import Derived.LoopTactic
namespace Go.Proofs.Ytfifhmhkmdgplaa
open Go.RowKit
/-- the eight tables, filled as far as number i, and of this as far as table j -/
def Tabs (p : BitVec 32) (i j : Nat) (cs : Array Value) : Prop := ∀ k n, k < 8 → n < 256 → (k = 0 ∨ n < i ∨ (n = i ∧ k < j)) → cs[k * 256 + n]? = some (.int .u32 (u (Crc.T p k n)))
theorem Tabs.put {p : BitVec 32} {i j : Nat} {cs : Array Value} (h : Tabs p i j cs) (hi : i < 256) (hj : j < 8) (hj1 : 1 ≤ j) (hs : cs.size = 2048) : Tabs p i (j + 1) (cs.setIfInBounds (j * 256 + i) (.int .u32 (u (Crc.T p j i)))) := by
  intro k n hk hn hc
  rw [Array.getElem?_setIfInBounds]
  by_cases e : j * 256 + i = k * 256 + n
  · have e1 : j = k := by omega
    have e2 : i = n := by omega
    subst e1; subst e2
    rw [if_pos rfl, if_pos (by omega)]
  · rw [if_neg e]
    exact h k n hk hn (by omega)
theorem Tabs.next {p : BitVec 32} {i : Nat} {cs : Array Value} (h : Tabs p i 8 cs) : Tabs p (i + 1) 1 cs := fun k n hk hn hc => h k n hk hn (by omega)
theorem Tabs.first {p : BitVec 32} {cs : Array Value} (h : Tab p 256 cs) : Tabs p 0 1 cs := fun k n hk hn hc => by
  have : k = 0 := by omega
  subst this
  simpa using h n hn
theorem Tabs.one {p : BitVec 32} {i : Nat} {cs : Array Value} (h : Tabs p i 0 cs) : Tabs p i 1 cs := fun k n hk hn hc => h k n hk hn (by omega)
theorem T_next (p : BitVec 32) (k n : Nat) : Crc.T p 0 (u (Crc.T p k n &&& 255#32)).toNat ^^^ (Crc.T p k n >>> 8) = Crc.T p (k + 1) n := by
  rw [Crc.T_succ p k n (by decide), u_toNat, BitVec.toNat_and]; rfl
theorem low_lt (x : BitVec 32) : u (x &&& 255#32) < 256 := by
  unfold u
  rw [BitVec.toNat_and]
  have : x.toNat &&& (255#32).toNat ≤ (255#32).toNat := Nat.and_le_right
  have h2 : (255#32).toNat = 255 := rfl
  omega
theorem low_lt' (x : BitVec 32) : (u (x &&& 255#32)).toNat < 256 := by have := low_lt x; omega
set_option maxRecDepth 100000 in
set_option maxHeartbeats 400000 in
theorem slicing_any (p : BitVec 32) (w : World) :
    Calls Try.prog 42 #[.int .u32 (u p)] w fun e w' => ∃ g cs, e = .returned (.pointer (some ⟨g, 0, none⟩)) ∧ Blk w' g 61 cs ∧ cs.size = 2048 ∧ Tabs p 256 1 cs ∧ Below w.heap.size w w' ∧ w.heap.size ≤ g := by
  have hz := zero_tables
  go_enter Try.func42, Try.ntmps42
  go_wp2_with fail
  refine (populate p _ 61 (zeroCells 2048) _ (Blk.new _ _ _) (by rw [zeroCells_size]; omega)).mono ?_
  rintro e w1 ⟨rfl, cs1, hB1, hs1, hT1, hb1⟩
  have Hs1 : Hid (cs1.size = 2048) := hs1.trans (zeroCells_size _)
  have hb2 : Below w.heap.size w w1 := ((Below.refl _ _).alloc (Nat.le_refl _) _).trans hb1
  clear hs1 hz hb1
  obtain ⟨g, hg⟩ : ∃ g, g = w.heap.size := ⟨_, rfl⟩
  rw [← hg] at hB1 ⊢
  have Hg : Hid (w.heap.size ≤ g) := by rw [hg]; exact Nat.le_refl _
  clear hg
  go_wp2
  go_loopw [4, 5, 6] (fun i _ _ wr => ∃ k : Nat, ∃ cs', k ≤ 256 ∧ i = .int .i64 k ∧ Blk wr g 61 cs' ∧ cs'.size = 2048 ∧ Tabs p k 1 cs' ∧ Below w.heap.size w wr) (fun i _ _ _ => 256 - (intOf i).toNat)
  case atStart => exact ⟨0, cs1, by omega, rfl, hB1, Hs1.out, Tabs.first hT1, hb2⟩
  case round =>
    obtain ⟨k, cs', hk, rfl, hB', hs', hT, hbel⟩ := hrel
    have Hs : Hid (cs'.size = 2048) := hs'
    clear hs'
    by_cases hlt : k < 256
    · have hd : decide ((k : Int) < 256) = true := decide_eq_true (by omega)
      have hc0 : wr.cell? ⟨g, k, none⟩ = some (.int .u32 (u (Crc.T p 0 k))) := by
        rw [hB'.cell]; have := hT 0 k (by omega) hlt (Or.inl rfl); simpa using this
      go_wp2
      obtain ⟨wo, rfl⟩ : ∃ wo : World, wo = wr := ⟨_, rfl⟩
      clear hc0 
      go_loopw [5, 6] (fun r i wr => ∃ j : Nat, ∃ cs', 1 ≤ j ∧ j ≤ 8 ∧ i = .int .i64 j ∧ r = .int .u32 (u (Crc.T p (j - 1) k)) ∧ Blk wr g 61 cs' ∧ cs'.size = 2048 ∧ Tabs p k j cs' ∧ Below w.heap.size w wr) (fun _ i _ => 8 - (intOf i).toNat)
      case atStart => exact ⟨1, cs', by omega, by omega, rfl, rfl, hB', Hs.out, hT, hbel⟩
      case round =>
        clear hB' hT hbel Hs
        obtain ⟨j, cs', hj1, hj, rfl, rfl, hB', hs', hT, hbel⟩ := hrel
        have Hs : Hid (cs'.size = 2048) := hs'
        clear hs'
        by_cases hlt2 : j < 8
        · have hd2 : decide ((j : Int) < 8) = true := decide_eq_true (by omega)
          have hlo := u_nonneg (Crc.T p (j - 1) k &&& 255#32)
          have hhi := low_lt (Crc.T p (j - 1) k)
          have hci : wr.cell? ⟨g, (u (Crc.T p (j - 1) k &&& 255#32)).toNat, none⟩ = some (.int .u32 (u (Crc.T p 0 (u (Crc.T p (j - 1) k &&& 255#32)).toNat))) := by
            rw [hB'.cell]; have := hT 0 _ (by omega) (low_lt' (Crc.T p (j - 1) k)) (Or.inl rfl); simpa using this
          obtain ⟨v, hv⟩ : ∃ v, wr.cell? ⟨g, j * 256 + k, none⟩ = some v := by rw [hB'.cell]; exact ⟨_, Array.getElem?_eq_getElem (by rw [Hs.out]; omega)⟩
          have hf := hB'.free (j * 256 + k)
          go_wp2
          go_roundw
          case rel =>
            have e1 := T_next p (j - 1) k
            rw [show j - 1 + 1 = j by omega] at e1
            rw [e1]
            exact ⟨j + 1, _, by omega, by omega, by go_num, rfl, hB'.put (j * 256 + k) _, by rw [Array.size_setIfInBounds]; exact Hs.out, hT.put hlt hlt2 hj1 Hs.out, hbel.setCell (p := ⟨g, j * 256 + k, none⟩) Hg.out _⟩
          case measure => simp [intOf]; omega
        · obtain rfl : j = 8 := by omega
          go_wp2
          go_roundw
          case rel => exact ⟨k + 1, cs', by omega, by go_num, hB', Hs.out, hT.next, hbel⟩
          case measure => simp [intOf]; omega
    · obtain rfl : k = 256 := by omega
      go_wp2
      go_ret
      exact ⟨g, cs', rfl, hB', Hs.out, hT, hbel, Hg.out⟩
end Go.Proofs.Ytfifhmhkmdgplaa
