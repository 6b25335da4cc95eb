/- The remainder as a register, on lists. -/
import Derived.Test.YtiibhdhmkjpafaaChecked
import Derived.Test.YtiibhdhmkjpafaaRest
import Derived.WalkKit
import Derived.LoopTactic
import Derived.IntWalk
namespace Go.Proofs.Ytiibhdhmkjpafaa
open Go.RowKit
/-- the first k bits turned -/
def turnAt (xs : List Bool) (k : Nat) : List Bool := (xs.take k).map (!·) ++ xs.drop k
theorem turnAt_length (xs : List Bool) (k : Nat) : (turnAt xs k).length = xs.length := by
  simp [turnAt]; omega
theorem turnAt_getD (xs : List Bool) (k j : Nat) (hk : k ≤ xs.length) : (turnAt xs k).getD j false = if j < k then !(xs.getD j false) else xs.getD j false := by
  unfold turnAt
  by_cases h : j < k
  · rw [if_pos h, List.getD_eq_getElem?_getD, List.getElem?_append_left (by simp; omega), List.getElem?_map, List.getElem?_take_of_lt h, List.getElem?_eq_getElem (by omega)]
    simp [show j < xs.length by omega]
  · rw [if_neg h, List.getD_eq_getElem?_getD, List.getElem?_append_right (by simp; omega), List.getElem?_drop, ← List.getD_eq_getElem?_getD]
    congr 1
    simp; omega
theorem ext_getD (a b : List Bool) (hl : a.length = b.length) (h : ∀ j, a.getD j false = b.getD j false) : a = b := by
  apply List.ext_getElem hl
  intro j h1 h2
  have := h j
  rw [List.getD_eq_getElem?_getD, List.getD_eq_getElem?_getD, List.getElem?_eq_getElem h1, List.getElem?_eq_getElem h2] at this
  simpa using this
theorem turnAt_succ (xs : List Bool) (k : Nat) (h : k < xs.length) : (turnAt xs k).set k (!((turnAt xs k).getD k false)) = turnAt xs (k + 1) := by
  apply ext_getD _ _ (by rw [List.length_set, turnAt_length, turnAt_length])
  intro j
  rw [turnAt_getD xs (k + 1) j (by omega)]
  by_cases e : k = j
  · subst e
    rw [List.getD_eq_getElem?_getD, List.getElem?_set_self (by rw [turnAt_length]; exact h), turnAt_getD xs k k (by omega), if_neg (by omega), if_pos (by omega)]; rfl
  · rw [List.getD_eq_getElem?_getD, List.getElem?_set_ne e, ← List.getD_eq_getElem?_getD, turnAt_getD xs k j (by omega)]
    by_cases h2 : j < k
    · rw [if_pos h2, if_pos (by omega)]
    · rw [if_neg h2, if_neg (by omega)]
theorem divAt_getD (P : BitVec 64) (n j : Nat) (h : j < n) : (divAt P n).getD (j + 1) false = P.getLsbD j := by
  simp [divAt, h]
theorem rem_inv (p : BitVec 64) (bits : List Bool) (i : Nat) (hi : i ≤ bits.length) :
    (∀ j, j < 64 → (restAt (turnAt (bits ++ List.replicate 64 false) 64) (divAt (p.setWidth 64) 64) i).getD (i + j) false = (Crc.win p bits i).getLsbD j) ∧
    (∀ k, i + 64 ≤ k → (restAt (turnAt (bits ++ List.replicate 64 false) 64) (divAt (p.setWidth 64) 64) i).getD k false = (bits ++ List.replicate 64 false).getD k false) := by
  have hlen : 64 ≤ (bits ++ List.replicate 64 false).length := by rw [List.length_append, List.length_replicate]; omega
  induction i with
  | zero =>
    constructor
    · intro j hj
      rw [restAt, Nat.zero_add, turnAt_getD _ _ _ hlen, if_pos hj, Crc.win_zero p bits j hj]
    · intro k hk
      rw [restAt, turnAt_getD _ _ _ hlen, if_neg (by omega)]
  | succ i ih =>
    obtain ⟨h1, h2⟩ := ih (by omega)
    have hw := fun j hj => Crc.win_succ p bits i j (by omega) hj
    have h0 := h1 0 (by decide)
    rw [Nat.add_zero] at h0
    have hlen2 : i + (divAt (p.setWidth 64) 64).length ≤ (restAt (turnAt (bits ++ List.replicate 64 false) 64) (divAt (p.setWidth 64) 64) i).length := by
      rw [restAt_length, turnAt_length, divAt_length, List.length_append, List.length_replicate]; omega
    have hr1 : ∀ j, j < 64 → (restAt (turnAt (bits ++ List.replicate 64 false) 64) (divAt (p.setWidth 64) 64) i).getD (i + 1 + j) false = if j + 1 < 64 then (Crc.win p bits i).getLsbD (j + 1) else (bits ++ List.replicate 64 false).getD (i + 64) false := by
      intro j hj
      by_cases h : j + 1 < 64
      · rw [if_pos h, ← h1 (j + 1) h]; congr 1; omega
      · rw [if_neg h, h2 _ (by omega)]; congr 1; omega
    rw [restAt, h0]
    cases hc : (Crc.win p bits i).getLsbD 0 with
    | false =>
      rw [if_neg (by simp)]
      constructor
      · intro j hj
        rw [hr1 j hj, hw j hj, hc]; simp
      · intro k hk
        exact h2 k (by omega)
    | true =>
      rw [if_pos rfl]
      constructor
      · intro j hj
        have hp64 : (p.setWidth 64).getLsbD j = p.getLsbD j := by rw [BitVec.getLsbD_setWidth]; simp; omega
        rw [xorTo_getD _ _ _ _ _ hlen2, if_pos (by rw [divAt_length]; omega), show i + 1 + j - i = j + 1 by omega, divAt_getD _ _ _ hj, hr1 j hj, hw j hj, hc, hp64]
        simp
      · intro k hk
        rw [xorTo_getD _ _ _ _ _ hlen2, if_neg (by rw [divAt_length]; omega)]
        exact h2 k (by omega)
theorem rem_law (p : BitVec 64) (l : List (BitVec 8)) (j : Nat) (hj : j < 64) :
    ((restAt (turnAt (Crc.bitsOf l ++ List.replicate 64 false) 64) (divAt (p.setWidth 64) 64) (8 * l.length)).drop (8 * l.length)).getD j false = (Crc.crcReg p (BitVec.allOnes 64) l).getLsbD j := by
  have h := (rem_inv p (Crc.bitsOf l) (8 * l.length) (by rw [Crc.bitsOf_length]; omega)).1 j hj
  rw [List.getD_eq_getElem?_getD, List.getElem?_drop, ← List.getD_eq_getElem?_getD, h, Crc.crcReg_bits _ _ _ (by decide), ← Crc.win_last, Crc.bitsOf_length]
/-- the number out of the remainder's coefficients -/
def outAt (r : List Bool) : Nat → BitVec 64
  | 0 => 0#64
  | i + 1 => if r.getD i false then outAt r i else outAt r i ||| (1#64 <<< i)
theorem outAt_lsb (r : List Bool) (i j : Nat) (hj : j < 64) : (outAt r i).getLsbD j = (decide (j < i) && !(r.getD j false)) := by
  induction i with
  | zero => simp [outAt]
  | succ i ih =>
    rw [outAt]
    by_cases e : j = i
    · subst e
      cases hr : r.getD j false with
      | true => rw [if_pos rfl, ih]; simp
      | false =>
        rw [if_neg (by simp), BitVec.getLsbD_or, ih, BitVec.getLsbD_shiftLeft]
        simp [hj]
    · have hd : decide (j < i + 1) = decide (j < i) := by
        by_cases h : j < i
        · simp [h, show j < i + 1 by omega]
        · simp [h, show ¬ j < i + 1 by omega]
      cases hr : r.getD i false with
      | true => rw [if_pos rfl, ih, hd]
      | false =>
        rw [if_neg (by simp), BitVec.getLsbD_or, ih, hd, BitVec.getLsbD_shiftLeft, BitVec.getLsbD_one]
        by_cases h : j < i
        · simp [h]
        · have h3 : ¬ j - i = 0 := by omega
          simp [h3]
theorem out_law (p : BitVec 64) (l : List (BitVec 8)) (r : List Bool) (h : ∀ j, j < 64 → r.getD j false = (Crc.crcReg p (BitVec.allOnes 64) l).getLsbD j) : outAt r 64 = (Crc.sum p 0#64 l).setWidth 64 := by
  apply BitVec.eq_of_getLsbD_eq
  intro j hj
  rw [outAt_lsb r 64 j hj, BitVec.getLsbD_setWidth]
  unfold Crc.sum
  rw [show ~~~ (0#64) = BitVec.allOnes 64 by decide, BitVec.getLsbD_not]
  by_cases h2 : j < 64
  · rw [h j h2]; simp_all
  · simp [h2]
end Go.Proofs.Ytiibhdhmkjpafaa
