/- Bits turned among 64: what Burst returns; the sums differ just where one was turned. -/
import Derived.Test.YtiibhdhmkjpafaaChecked
import Derived.Test.YtiibhdhmkjpafaaBy
import Derived.Test.YtiibhdhmkjpafaaPlain
import Derived.WalkKit
import Derived.LoopTactic
import Derived.IntWalk
import Derived.RegionTactic
import Derived.BigRegion
namespace Go.Proofs.Ytiibhdhmkjpafaa
open Go.RowKit
/-- bit k of a text turned -/
def toggle (q : List (BitVec 8)) (k : Nat) : List (BitVec 8) := q.set (k / 8) (nth q (k / 8) ^^^ (1#8 <<< (k % 8)))
/-- Burst's text behind i bits of the mask -/
def burstAt (l : List (BitVec 8)) (p : Nat) (mask : BitVec 64) : Nat → List (BitVec 8)
  | 0 => l
  | i + 1 => if odd (mask >>> i) && decide (p + i < 8 * l.length) then toggle (burstAt l p mask i) (p + i) else burstAt l p mask i
/-- has one bit been turned? -/
def turnedAt (n p : Nat) (mask : BitVec 64) : Nat → Bool
  | 0 => false
  | i + 1 => (odd (mask >>> i) && decide (p + i < 8 * n)) || turnedAt n p mask i
theorem burstAt_length (l : List (BitVec 8)) (p : Nat) (mask : BitVec 64) (i : Nat) : (burstAt l p mask i).length = l.length := by
  induction i with
  | zero => rfl
  | succ i ih =>
    unfold burstAt
    split
    · simp [toggle, ih]
    · exact ih
theorem burstAt_yes {l : List (BitVec 8)} {p : Nat} {mask : BitVec 64} {i : Nat} (h1 : odd (mask >>> i) = true) (h2 : p + i < 8 * l.length) : burstAt l p mask (i + 1) = toggle (burstAt l p mask i) (p + i) := by
  rw [burstAt, h1]; simp [h2]
theorem burstAt_no {l : List (BitVec 8)} {p : Nat} {mask : BitVec 64} {i : Nat} (h : odd (mask >>> i) = false ∨ ¬ p + i < 8 * l.length) : burstAt l p mask (i + 1) = burstAt l p mask i := by
  rw [burstAt]
  rcases h with h | h <;> simp [h]
theorem turnedAt_yes {n p : Nat} {mask : BitVec 64} {i : Nat} (h1 : odd (mask >>> i) = true) (h2 : p + i < 8 * n) : turnedAt n p mask (i + 1) = true := by
  rw [turnedAt, h1]; simp [h2]
theorem turnedAt_no {n p : Nat} {mask : BitVec 64} {i : Nat} (h : odd (mask >>> i) = false ∨ ¬ p + i < 8 * n) : turnedAt n p mask (i + 1) = turnedAt n p mask i := by
  rw [turnedAt]
  rcases h with h | h <;> simp [h]
theorem odd_shr (mask : BitVec 64) (i : Nat) : odd (mask >>> i) = mask.getLsbD i := by
  unfold odd
  rw [BitVec.getLsbD_ushiftRight, Nat.add_zero]
theorem toggle_bit (q : List (BitVec 8)) (K k : Nat) (hK : K < 8 * q.length) : (nth (toggle q K) (k / 8)).getLsbD (k % 8) = ((nth q (k / 8)).getLsbD (k % 8) ^^ decide (k = K)) := by
  unfold toggle
  by_cases h : k / 8 = K / 8
  · have e : nth (q.set (K / 8) (nth q (K / 8) ^^^ 1#8 <<< (K % 8))) (k / 8) = nth q (K / 8) ^^^ 1#8 <<< (K % 8) := by
      rw [h]
      unfold nth
      rw [List.getD_eq_getElem?_getD, List.getElem?_set_self (by omega)]; rfl
    rw [e, BitVec.getLsbD_xor, h]
    congr 1
    rw [BitVec.getLsbD_shiftLeft, BitVec.getLsbD_one]
    have h1 : k % 8 < 8 := by omega
    by_cases h2 : k % 8 = K % 8
    · have h3 : k = K := by omega
      subst h3
      simp [h1]
    · have h3 : ¬ k = K := by omega
      simp only [h3, decide_false]
      by_cases h4 : k % 8 < K % 8
      · simp [h4]
      · have h5 : ¬ (k % 8 - K % 8 = 0) := by omega
        simp [h5]
  · have h3 : ¬ k = K := by omega
    have e : nth (q.set (K / 8) (nth q (K / 8) ^^^ 1#8 <<< (K % 8))) (k / 8) = nth q (k / 8) := by
      unfold nth
      rw [List.getD_eq_getElem?_getD, List.getElem?_set_ne (by omega), ← List.getD_eq_getElem?_getD]
    rw [e]
    simp [h3]
theorem burst_bit (l : List (BitVec 8)) (p : Nat) (mask : BitVec 64) (i k : Nat) (hk : k < 8 * l.length) :
    (nth (burstAt l p mask i) (k / 8)).getLsbD (k % 8) = ((nth l (k / 8)).getLsbD (k % 8) ^^ (decide (p ≤ k) && (decide (k < p + i) && mask.getLsbD (k - p)))) := by
  induction i with
  | zero =>
    by_cases h : p ≤ k
    · have h2 : ¬ k < p := by omega
      simp [burstAt, h2]
    · simp [burstAt, h]
  | succ i ih =>
    by_cases ho : odd (mask >>> i) = true
    · have hm := ho
      rw [odd_shr] at hm
      by_cases hin : p + i < 8 * l.length
      · rw [burstAt_yes ho hin, toggle_bit _ _ _ (by rw [burstAt_length]; exact hin), ih]
        by_cases e : k = p + i
        · subst e
          simp [hm]
        · by_cases h1 : p ≤ k
          · by_cases h2 : k < p + i
            · simp [h2, e, show k < p + (i + 1) by omega]
            · simp [h2, e, show ¬ k < p + (i + 1) by omega]
          · simp [h1, e]
      · rw [burstAt_no (Or.inr hin), ih]
        have h2 : k < p + i := by omega
        simp [h2, show k < p + (i + 1) by omega]
    · have ho' : odd (mask >>> i) = false := by simpa using ho
      have hm := ho'
      rw [odd_shr] at hm
      rw [burstAt_no (Or.inl ho'), ih]
      by_cases e : k = p + i
      · subst e; simp [hm]
      · by_cases h2 : k < p + i
        · simp [h2, show k < p + (i + 1) by omega]
        · by_cases h1 : p ≤ k
          · simp [h2, show ¬ k < p + (i + 1) by omega]
          · simp [h1]
theorem turned_iff (n p : Nat) (mask : BitVec 64) (i : Nat) : turnedAt n p mask i = true ↔ ∃ k, k < 8 * n ∧ p ≤ k ∧ k < p + i ∧ mask.getLsbD (k - p) = true := by
  induction i with
  | zero => simp [turnedAt]; omega
  | succ i ih =>
    rw [turnedAt, Bool.or_eq_true, ih, Bool.and_eq_true, odd_shr, decide_eq_true_eq]
    constructor
    · rintro (⟨h1, h2⟩ | ⟨k, h1, h2, h3, h4⟩)
      · exact ⟨p + i, h2, by omega, by omega, by rw [show p + i - p = i by omega]; exact h1⟩
      · exact ⟨k, h1, h2, by omega, h4⟩
    · rintro ⟨k, h1, h2, h3, h4⟩
      by_cases e : k = p + i
      · subst e; left; rw [show p + i - p = i by omega] at h4; exact ⟨h4, h1⟩
      · right; exact ⟨k, h1, h2, by omega, h4⟩
theorem burst_law (p c : BitVec 64) (hp : p.msb = true) (l : List (BitVec 8)) (a : Nat) (mask : BitVec 64) (hmask : ∀ i, 64 ≤ i → mask.getLsbD i = false) :
    (Crc.sum p c (burstAt l a mask 64) != Crc.sum p c l) = turnedAt l.length a mask 64 := by
  have h := Crc.burst p (~~~ c) (by decide) hp (burstAt l a mask 64) l (burstAt_length _ _ _ _) a (fun i => decide (i < 64) && mask.getLsbD i) (fun i hi => by rw [hmask i hi]; simp)
    (fun k hk => by
      have e := burst_bit l a mask 64 k hk
      unfold nth at e
      rw [e]
      congr 1
      by_cases h1 : a ≤ k
      · simp [h1, show (k < a + 64) ↔ (k - a < 64) by omega]
      · simp [h1])
  rw [Bool.eq_iff_iff, turned_iff, bne_iff_ne, Ne]
  unfold Crc.sum
  rw [BitVec.not_inj, h]
  constructor
  · intro hn
    apply Classical.byContradiction
    intro hno
    apply hn
    intro k hk
    apply Classical.byContradiction
    intro h2
    apply hno
    simp only [Bool.and_eq_false_iff, decide_eq_false_iff_not] at h2
    refine ⟨k, hk, ?_, ?_, ?_⟩
    · apply Classical.byContradiction; intro h3; exact h2 (Or.inl h3)
    · apply Classical.byContradiction; intro h3; exact h2 (Or.inr (Or.inl (by omega)))
    · cases h4 : mask.getLsbD (k - a) with
      | true => rfl
      | false => exact absurd (Or.inr (Or.inr h4)) h2
  · rintro ⟨k, h1, h2, h3, h4⟩ hall
    have := hall k h1
    simp [h2, h4] at this
    omega
/-- what Burst leaves -/
def BurstPost (q : List (BitVec 8)) (t : Bool) (n : Nat) (w : World) (e : Ending) (w' : World) : Prop := ∃ A c, e = .returned (.tuple #[.slice A n c, .bool t]) ∧ n ≤ c ∧ Bytes w' w'.heap.size A q ∧ Below w.heap.size w w'
set_option maxRecDepth 100000 in
set_option maxHeartbeats 800000 in
theorem burst_any (a : Option Addr) (l : List (BitVec 8)) (n ca : Nat) (hn : n = l.length) (hm : n ≤ 2147483647) (p : Nat) (hp : p ≤ 65535) (mask : BitVec 64) (w : World) (B : Nat) (hA : Bytes w B a l) (hBB : B ≤ w.heap.size) :
    Calls Try.prog 8 #[.slice a n ca, .int .i64 p, .int .u64 (u mask)] w (BurstPost (burstAt l p mask 64) (turnedAt n p mask 64) n w) := by
  have Hn : Hid (n = l.length) := hn
  obtain ⟨A1, c1, w1, hr1, hown1, hb1, hc1⟩ := copy_bytes w a l n ca B hn hA hBB (by omega)
  clear hn
  go_enter Try.func8, Try.ntmps8
  go_wp2_with (at_builtin; refine wpList_run_append rfl _ _ _ _ rfl rfl rfl hr1 ?_)
  clear hr1
  go_loopw [9, 10, 11] (fun t i _ wr => ∃ k : Nat, k ≤ 64 ∧ i = .int .i64 k ∧ t = .bool (turnedAt n p mask k) ∧ wr.ownsRow w.heap.size 5 1 (.slice A1 n c1) n ((burstAt l p mask k).map byteV) ∧ Below w.heap.size w wr) (fun _ i _ _ => 64 - (intOf i).toNat)
  case atStart => exact ⟨0, by omega, rfl, rfl, hown1, hb1⟩
  case round =>
    obtain ⟨i, hi, rfl, rfl, hown, hbr⟩ := hrel
    by_cases hlt : i < 64
    · have hd : decide ((i : Int) < 64) = true := decide_eq_true (by omega)
      have hmin : min i 64 = i := by omega
      cases ho : odd (mask >>> i) with
      | false =>
        go_wp2_with fail
        go_roundw
        case rel => exact ⟨i + 1, by omega, by go_num, by rw [turnedAt_no (Or.inl ho)], by rw [burstAt_no (Or.inl ho)]; exact hown, hbr⟩
        case measure => simp [intOf]; omega
      | true =>
        by_cases hin : p + i < 8 * n
        · have hd2 : decide ((p : Int) + (i : Int) < 8 * (n : Int)) = true := decide_eq_true (by omega)
          obtain ⟨K, HK⟩ : ∃ K : Nat, Hid (K = p + i) := ⟨p + i, rfl⟩
          have hK : (p : Int) + (i : Int) = (K : Int) := by have := HK.out; omega
          obtain ⟨q, Hq⟩ : ∃ q : Nat, Hid (q = K / 8) := ⟨_, rfl⟩
          obtain ⟨r, Hr⟩ : ∃ r : Nat, Hid (r = K % 8) := ⟨_, rfl⟩
          rcases hown.2 with ⟨he, h0⟩ | ⟨g, cap, cur, he, hgb, _⟩
          · omega
          injection he with he1 _ he3
          subst he1; subst he3
          have hqn : q < n := by have := Hq.out; have := HK.out; omega
          obtain ⟨x, Hx⟩ : ∃ x, Hid (x = nth (burstAt l p mask i) q) := ⟨_, rfl⟩
          have hcell : wr.cell? ⟨g, q, none⟩ = some (.int .u8 (u x)) := by
            rw [hown.cellAt q (by omega), Hx.out]
            exact nth_some (by rw [burstAt_length, ← Hn.out]; exact hqn)
          have hfree := hown.frozenAt q
          have q1 : (K : Int) / 8 = (q : Int) := by have := Hq.out; omega
          have r1 : (K : Int) % 8 = (r : Int) := by have := Hr.out; omega
          have q2 : (K : Int).tdiv 8 = (q : Int) := by rw [Int.tdiv_eq_ediv_of_nonneg (by omega)]; exact q1
          have r2 : (K : Int).tmod 8 = (r : Int) := by rw [Int.tmod_eq_emod_of_nonneg (by omega)]; exact r1
          have q3 : (q : Int) < (n : Int) := by omega
          have q4 : (0 : Int) ≤ (q : Int) := by omega
          have r3 : (0 : Int) ≤ (r : Int) := by omega
          have hr8 : r < 8 := by have := Hr.out; omega
          have hrm : min r 8 = r := by omega
          obtain ⟨y, Hy⟩ : ∃ y, Hid (y = 1#8 <<< r) := ⟨_, rfl⟩
          have hsh : (2 : Int) ^ r % 256 = u y := by
            rw [Hy.out, ← shl_u (1#8) r, show u (1#8) = 1 from rfl, Int.one_mul]; rfl
          go_wp2_with fail
          go_region
          have R1 := hown.stored q (.int .u8 (u (x ^^^ y)))
          have R2 : ((burstAt l p mask i).map byteV).set q (.int .u8 (u (x ^^^ y))) = (burstAt l p mask (i + 1)).map byteV := by
            rw [burstAt_yes ho (by rw [← Hn.out]; exact hin), toggle, ← HK.out, ← Hq.out, ← Hr.out, ← Hx.out, ← Hy.out, List.map_set]; rfl
          rw [R2] at R1
          clear hown hcell hfree hsh q1 q2 r1 r2 hK
          go_wp2_with fail
          go_roundw
          case rel => exact ⟨i + 1, by omega, by go_num, by rw [turnedAt_yes ho hin], R1.1.drew, hbr.trans (((Below.refl _ _).setCell (p := ⟨g, q, none⟩) hgb _).drew)⟩
          case measure => simp [intOf]; omega
        · have hd2 : decide ((p : Int) + (i : Int) < 8 * (n : Int)) = false := decide_eq_false (by omega)
          go_wp2_with fail
          go_roundw
          case rel => exact ⟨i + 1, by omega, by go_num, by rw [turnedAt_no (Or.inr hin)], by rw [burstAt_no (Or.inr (by rw [← Hn.out]; exact hin))]; exact hown, hbr⟩
          case measure => simp [intOf]; omega
    · obtain rfl : i = 64 := by omega
      go_wp2_with fail
      go_ret2
      exact ⟨A1, c1, rfl, hc1, owns_bytes hown, hbr⟩
end Go.Proofs.Ytiibhdhmkjpafaa
