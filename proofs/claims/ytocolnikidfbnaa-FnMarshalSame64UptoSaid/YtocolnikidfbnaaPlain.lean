/- Plain laws of registers and cyclic sums over bit vectors: steps are linear, bytes by tables, eight at a time, the remainder, bursts. No program in sight. -/
namespace Go.Proofs.Ytocolnikidfbnaa.Crc
variable {w : Nat}
theorem xor_lc (a b c : BitVec w) : a ^^^ (b ^^^ c) = b ^^^ (a ^^^ c) := by
  rw [← BitVec.xor_assoc, BitVec.xor_comm a b, BitVec.xor_assoc]
theorem xor_can (a b : BitVec w) : a ^^^ (a ^^^ b) = b := by rw [← BitVec.xor_assoc]; simp
/-- one step of a register by a bit 0 -/
def step (p c : BitVec w) : BitVec w := (c >>> 1) ^^^ (if c.getLsbD 0 then p else 0#w)
def steps (p : BitVec w) : Nat → BitVec w → BitVec w
  | 0, c => c
  | n + 1, c => steps p n (step p c)
theorem step_xor (p a b : BitVec w) : step p (a ^^^ b) = step p a ^^^ step p b := by
  unfold step
  rw [BitVec.ushiftRight_xor_distrib, BitVec.getLsbD_xor]
  cases a.getLsbD 0 <;> cases b.getLsbD 0 <;> simp [BitVec.xor_comm, xor_lc, xor_can]
theorem step_zero (p : BitVec w) : step p 0#w = 0#w := by simp [step]
theorem steps_zero (p : BitVec w) (n : Nat) : steps p n 0#w = 0#w := by
  induction n with
  | zero => rfl
  | succ n ih => rw [steps, step_zero, ih]
theorem steps_xor (p a b : BitVec w) (n : Nat) : steps p n (a ^^^ b) = steps p n a ^^^ steps p n b := by
  induction n generalizing a b with
  | zero => rfl
  | succ n ih => rw [steps, step_xor, ih]; rfl
theorem steps_add (p c : BitVec w) (m n : Nat) : steps p (m + n) c = steps p n (steps p m c) := by
  induction m generalizing c with
  | zero => rw [Nat.zero_add]; rfl
  | succ m ih => rw [Nat.succ_add, steps, ih]; rfl
theorem steps_succ' (p c : BitVec w) (n : Nat) : steps p (n + 1) c = step p (steps p n c) := by
  rw [steps_add]; rfl
/-- if the n lowest bits are 0, n steps are a shift -/
theorem steps_low (p c : BitVec w) (n : Nat) (h : ∀ i, i < n → c.getLsbD i = false) : steps p n c = c >>> n := by
  induction n generalizing c with
  | zero => simp [steps]
  | succ n ih =>
    have h0 : step p c = c >>> 1 := by unfold step; rw [h 0 (by omega)]; simp
    rw [steps, h0, ih, ← BitVec.shiftRight_add]
    · rw [Nat.add_comm]
    · intro i hi; rw [BitVec.getLsbD_ushiftRight]; exact h _ (by omega)

theorem split8 (x : BitVec w) : x = (x &&& 255#w) ^^^ ((x >>> 8) <<< 8) := by
  apply BitVec.eq_of_getLsbD_eq
  intro i hi
  rw [BitVec.getLsbD_xor, BitVec.getLsbD_and, BitVec.getLsbD_shiftLeft, BitVec.getLsbD_ushiftRight]
  have h255 : (255#w).getLsbD i = decide (i < 8) := by
    rw [BitVec.getLsbD_ofNat, show (255 : Nat) = 2 ^ 8 - 1 from rfl, Nat.testBit_two_pow_sub_one]
    simp [hi]
  rw [h255]
  by_cases h : i < 8
  · simp [h]
  · simp [h, hi, show 8 + (i - 8) = i by omega]
theorem steps_shl (p y : BitVec w) (n : Nat) : steps p n (y <<< n) = (y <<< n) >>> n := by
  apply steps_low
  intro i hi
  rw [BitVec.getLsbD_shiftLeft]; simp [hi]
theorem shr_shl_shr (x : BitVec w) (n : Nat) : ((x >>> n) <<< n) >>> n = x >>> n := by
  apply BitVec.eq_of_getLsbD_eq
  intro i hi
  simp only [BitVec.getLsbD_shiftLeft, BitVec.getLsbD_ushiftRight]
  by_cases h : n + i < w
  · have h1 : ¬ (n + i < n) := by omega
    simp [h, h1]
  · have h2 := BitVec.getLsbD_of_ge x (n + i) (by omega)
    simp [h2]
theorem steps8 (p x : BitVec w) : steps p 8 x = steps p 8 (x &&& 255#w) ^^^ (x >>> 8) := by
  have h := congrArg (steps p 8) (split8 x)
  rw [steps_xor, steps_shl, shr_shl_shr] at h
  exact h
/-- entry n of table k -/
def T (p : BitVec w) (k n : Nat) : BitVec w := steps p (8 * (k + 1)) (BitVec.ofNat w n)
theorem ofNat_and (x : BitVec w) (hw : 8 ≤ w) : BitVec.ofNat w (x.toNat &&& 255) = x &&& 255#w := by
  apply BitVec.eq_of_toNat_eq
  have h2 : 2 ^ 8 ≤ 2 ^ w := Nat.pow_le_pow_right (by omega) hw
  rw [BitVec.toNat_ofNat, BitVec.toNat_and, BitVec.toNat_ofNat, Nat.mod_eq_of_lt (a := 255) (by omega)]
  exact Nat.mod_eq_of_lt (Nat.lt_of_le_of_lt Nat.and_le_left x.isLt)
theorem steps_T (p x : BitVec w) (m : Nat) (hw : 8 ≤ w) : steps p (8 * (m + 1)) x = T p m (x.toNat &&& 255) ^^^ steps p (8 * m) (x >>> 8) := by
  unfold T
  rw [show 8 * (m + 1) = 8 + 8 * m by omega, steps_add, steps8, steps_xor, steps_add, ofNat_and x hw]
theorem T_succ (p : BitVec w) (k n : Nat) (hw : 8 ≤ w) : T p (k + 1) n = T p 0 ((T p k n).toNat &&& 255) ^^^ (T p k n >>> 8) := by
  have h := steps_T p (T p k n) 0 hw
  rw [show steps p (8 * 0) (T p k n >>> 8) = T p k n >>> 8 from rfl] at h
  rw [← h]
  unfold T
  rw [← steps_add]
  congr 1
/-- a register behind a byte -/
def byteReg (p c : BitVec w) (b : BitVec 8) : BitVec w := steps p 8 (c ^^^ b.setWidth w)
def crcReg (p c : BitVec w) (l : List (BitVec 8)) : BitVec w := l.foldl (byteReg p) c
/-- bytes as a number, the lowest first -/
def le (w : Nat) : List (BitVec 8) → BitVec w
  | [] => 0#w
  | b :: l => b.setWidth w ^^^ (le w l <<< 8)
theorem le_hi (l : List (BitVec 8)) (i : Nat) (hi : 8 * l.length ≤ i) : (le w l).getLsbD i = false := by
  induction l generalizing i with
  | nil => simp [le]
  | cons b l ih =>
    simp only [List.length_cons] at hi
    rw [le, BitVec.getLsbD_xor, BitVec.getLsbD_shiftLeft, ih (i - 8) (by omega), BitVec.getLsbD_setWidth]
    have : b.getLsbD i = false := BitVec.getLsbD_of_ge _ _ (by omega)
    simp [this]
theorem le_back (l : List (BitVec 8)) (h : 8 * (l.length + 1) ≤ w) : (le w l <<< 8) >>> 8 = le w l := by
  apply BitVec.eq_of_getLsbD_eq
  intro i hi
  rw [BitVec.getLsbD_ushiftRight, BitVec.getLsbD_shiftLeft]
  by_cases h1 : 8 * l.length ≤ i
  · rw [le_hi l i h1, le_hi l (8 + i - 8) (by omega), Bool.and_false]
  · have h2 : ¬ (8 + i < 8) := by omega
    simp [show 8 + i < w by omega, h2]
theorem crcReg_le (p c : BitVec w) (l : List (BitVec 8)) (h : 8 * l.length ≤ w) : crcReg p c l = steps p (8 * l.length) (c ^^^ le w l) := by
  induction l generalizing c with
  | nil => simp [crcReg, le, steps]
  | cons b l ih =>
    simp only [List.length_cons] at h ⊢
    show crcReg p (byteReg p c b) l = _
    rw [ih _ (by omega), show 8 * (l.length + 1) = 8 + 8 * l.length by omega, steps_add, le, ← BitVec.xor_assoc, steps_xor p (c ^^^ b.setWidth w), steps_shl, le_back l h]
    rfl
theorem crcReg_append (p c : BitVec w) (a b : List (BitVec 8)) : crcReg p c (a ++ b) = crcReg p (crcReg p c a) b := by
  simp [crcReg, List.foldl_append]
theorem byteReg_T (p c : BitVec w) (b : BitVec 8) (hw : 8 ≤ w) : byteReg p c b = T p 0 ((c ^^^ b.setWidth w).toNat &&& 255) ^^^ (c >>> 8) := by
  have h := steps_T p (c ^^^ b.setWidth w) 0 hw
  rw [show ∀ x, steps p (8 * 0) x = x from fun _ => rfl] at h
  unfold byteReg
  refine Eq.trans h ?_
  rw [BitVec.ushiftRight_xor_distrib]
  have : (b.setWidth w) >>> 8 = 0#w := by
    apply BitVec.eq_of_getLsbD_eq
    intro i hi
    rw [BitVec.getLsbD_ushiftRight, BitVec.getLsbD_setWidth]
    simp [BitVec.getLsbD_of_ge]
  rw [this]
  simp
/-! injectivity -/
theorem step_inj (p d : BitVec w) (hp : p.msb = true) (h : step p d = 0#w) : d = 0#w := by
  have hw : 0 < w := by
    rcases Nat.eq_zero_or_pos w with h0 | h0
    · subst h0; simp [BitVec.msb, BitVec.getMsbD] at hp
    · exact h0
  have h0 : d.getLsbD 0 = false := by
    have hm := congrArg (fun x => BitVec.getLsbD x (w - 1)) h
    simp only [step, BitVec.getLsbD_xor, BitVec.getLsbD_ushiftRight] at hm
    rw [BitVec.getLsbD_of_ge _ (1 + (w - 1)) (by omega)] at hm
    rw [BitVec.msb_eq_getLsbD_last] at hp
    cases hd : d.getLsbD 0 with
    | false => rfl
    | true => rw [hd] at hm; simp [hp] at hm
  unfold step at h
  rw [h0] at h
  simp only [Bool.false_eq_true, ite_false, BitVec.xor_zero] at h
  apply BitVec.eq_of_getLsbD_eq
  intro i hi
  cases i with
  | zero => rw [h0]; simp
  | succ i =>
    have hm := congrArg (fun x => BitVec.getLsbD x i) h
    simp only [BitVec.getLsbD_ushiftRight] at hm
    rw [Nat.add_comm] at hm; rw [hm]; simp
theorem steps_inj (p d : BitVec w) (n : Nat) (hp : p.msb = true) (h : steps p n d = 0#w) : d = 0#w := by
  induction n generalizing d with
  | zero => exact h
  | succ n ih => exact step_inj p d hp (ih _ h)

/-! bit by bit -/
def b1 (w : Nat) (b : Bool) : BitVec w := if b then 1#w else 0#w
def bitsReg (p c : BitVec w) (l : List Bool) : BitVec w := l.foldl (fun c b => step p (c ^^^ b1 w b)) c
def num (w : Nat) : List Bool → BitVec w
  | [] => 0#w
  | b :: l => b1 w b ^^^ (num w l <<< 1)
theorem b1_lsb (b : Bool) (i : Nat) : (b1 w b).getLsbD i = (decide (i < w) && (decide (i = 0) && b)) := by
  cases b <;> simp [b1, BitVec.getLsbD_ofNat]
  cases i with
  | zero => simp
  | succ i => simp [Nat.testBit_succ]
theorem num_lsb (l : List Bool) (i : Nat) (hi : i < w) : (num w l).getLsbD i = l.getD i false := by
  induction l generalizing i with
  | nil => simp [num]
  | cons b l ih =>
    rw [num, BitVec.getLsbD_xor, BitVec.getLsbD_shiftLeft, b1_lsb]
    cases i with
    | zero => simp [hi]
    | succ i => simp [hi, ih i (by omega)]
theorem num_back (l : List Bool) (h : l.length + 1 ≤ w) : (num w l <<< 1) >>> 1 = num w l := by
  apply BitVec.eq_of_getLsbD_eq
  intro i hi
  rw [BitVec.getLsbD_ushiftRight, BitVec.getLsbD_shiftLeft]
  by_cases h1 : l.length ≤ i
  · rw [num_lsb l i hi]
    by_cases h2 : 1 + i < w
    · rw [show 1 + i - 1 = i by omega, num_lsb l i hi]; simp [h1]
    · simp [h2, h1]
  · rw [show 1 + i - 1 = i by omega]
    have h2 : ¬ (1 + i < 1) := by omega
    simp [show 1 + i < w by omega, h2]
theorem step_shl (p y : BitVec w) : step p (y <<< 1) = (y <<< 1) >>> 1 := steps_shl p y 1
theorem bitsReg_num (p c : BitVec w) (l : List Bool) (h : l.length ≤ w) : bitsReg p c l = steps p l.length (c ^^^ num w l) := by
  induction l generalizing c with
  | nil => simp [bitsReg, num, steps]
  | cons b l ih =>
    simp only [List.length_cons] at h ⊢
    show bitsReg p (step p (c ^^^ b1 w b)) l = _
    rw [ih _ (by omega), steps, num, ← BitVec.xor_assoc, step_xor p (c ^^^ b1 w b), step_shl, num_back l h]
def bits8 (b : BitVec 8) : List Bool := (List.range 8).map fun i => b.getLsbD i
theorem num_bits8 (b : BitVec 8) : num w (bits8 b) = b.setWidth w := by
  apply BitVec.eq_of_getLsbD_eq
  intro i hi
  rw [num_lsb _ i hi, BitVec.getLsbD_setWidth]
  by_cases h : i < 8
  · simp [bits8, h, hi]
  · have h2 := BitVec.getLsbD_of_ge b i (by omega)
    have h3 : (bits8 b).length ≤ i := by simp [bits8]; omega
    rw [h2, List.getD_eq_getElem?_getD, List.getElem?_eq_none h3]; simp
theorem byteReg_bits (p c : BitVec w) (b : BitVec 8) (hw : 8 ≤ w) : byteReg p c b = bitsReg p c (bits8 b) := by
  rw [bitsReg_num p c (bits8 b) (by simpa [bits8] using hw), num_bits8]
  simp [byteReg, bits8]
theorem bitsReg_append (p c : BitVec w) (a b : List Bool) : bitsReg p c (a ++ b) = bitsReg p (bitsReg p c a) b := by
  simp [bitsReg, List.foldl_append]
def bitsOf (l : List (BitVec 8)) : List Bool := l.flatMap bits8
theorem crcReg_bits (p c : BitVec w) (l : List (BitVec 8)) (hw : 8 ≤ w) : crcReg p c l = bitsReg p c (bitsOf l) := by
  induction l generalizing c with
  | nil => rfl
  | cons b l ih =>
    show crcReg p (byteReg p c b) l = _
    rw [ih, byteReg_bits p c b hw, ← bitsReg_append]; rfl
theorem bitsReg_zeros (p c : BitVec w) (n : Nat) : bitsReg p c (List.replicate n false) = steps p n c := by
  induction n generalizing c with
  | zero => rfl
  | succ n ih =>
    rw [List.replicate_succ]
    show bitsReg p (step p (c ^^^ b1 w false)) _ = _
    rw [ih]; simp [b1, steps]
/-- linear -/
theorem byteReg_xor (p c d : BitVec w) (a b : BitVec 8) : byteReg p (c ^^^ d) (a ^^^ b) = byteReg p c a ^^^ byteReg p d b := by
  unfold byteReg
  rw [← steps_xor, BitVec.setWidth_xor]
  congr 1
  simp [BitVec.xor_assoc, xor_lc]
theorem crcReg_xor (p c d : BitVec w) (x y : List (BitVec 8)) (h : x.length = y.length) :
    crcReg p (c ^^^ d) (List.zipWith (· ^^^ ·) x y) = crcReg p c x ^^^ crcReg p d y := by
  induction x generalizing c d y with
  | nil => cases y with
    | nil => rfl
    | cons => simp at h
  | cons a x ih => cases y with
    | nil => simp at h
    | cons b y =>
      simp only [List.zipWith_cons_cons]
      show crcReg p (byteReg p (c ^^^ d) (a ^^^ b)) _ = crcReg p (byteReg p c a) x ^^^ crcReg p (byteReg p d b) y
      rw [byteReg_xor, ih _ _ _ (by simpa using h)]
/-- the sum -/
def sum (p crc : BitVec w) (l : List (BitVec 8)) : BitVec w := ~~~ crcReg p (~~~ crc) l

/-! the remainder: the window of the division -/
def win (p : BitVec w) (bits : List Bool) (i : Nat) : BitVec w :=
  bitsReg p (BitVec.allOnes w) (bits.take i) ^^^ num w ((bits ++ List.replicate w false).drop i)
theorem win_zero (p : BitVec w) (bits : List Bool) (j : Nat) (hj : j < w) : (win p bits 0).getLsbD j = !((bits ++ List.replicate w false).getD j false) := by
  unfold win
  rw [BitVec.getLsbD_xor, num_lsb _ j hj]
  simp [bitsReg, hj]
theorem step_lsb (p c : BitVec w) (j : Nat) : (step p c).getLsbD j = (c.getLsbD (j + 1) ^^ (c.getLsbD 0 && p.getLsbD j)) := by
  unfold step
  rw [BitVec.getLsbD_xor, BitVec.getLsbD_ushiftRight, Nat.add_comm]
  cases c.getLsbD 0 <;> simp
theorem win_succ (p : BitVec w) (bits : List Bool) (i j : Nat) (hi : i < bits.length) (hj : j < w) :
    (win p bits (i + 1)).getLsbD j =
      ((if j + 1 < w then (win p bits i).getLsbD (j + 1) else (bits ++ List.replicate w false).getD (i + w) false) ^^ ((win p bits i).getLsbD 0 && p.getLsbD j)) := by
  have hw : 0 < w := by omega
  have hd : (bits ++ List.replicate w false).drop i = bits[i] :: (bits ++ List.replicate w false).drop (i + 1) := by
    rw [List.drop_eq_getElem_cons (by simp; omega)]
    congr 1
    rw [List.getElem_append_left hi]
  have ht : bits.take (i + 1) = bits.take i ++ [bits[i]] := by
    rw [List.take_succ_eq_append_getElem hi]
  unfold win
  rw [ht, bitsReg_append, hd]
  generalize bitsReg p (BitVec.allOnes w) (bits.take i) = c
  generalize hL : (bits ++ List.replicate w false).drop (i + 1) = L
  generalize bits[i] = b
  have hg : (bits ++ List.replicate w false).getD (i + w) false = L.getD (w - 1) false := by
    rw [← hL, List.getD_eq_getElem?_getD, List.getD_eq_getElem?_getD, List.getElem?_drop, show i + 1 + (w - 1) = i + w by omega]
  rw [hg]
  show (step p (c ^^^ b1 w b) ^^^ num w L).getLsbD j = _
  simp only [BitVec.getLsbD_xor, step_lsb, num_lsb _ j hj, num_lsb _ 0 hw, b1_lsb]
  by_cases h1 : j + 1 < w
  · rw [if_pos h1, num_lsb _ _ h1]
    simp [hw]
    generalize c.getLsbD (j + 1) = x1
    generalize L[j]?.getD false = x2
    cases x1 <;> cases x2 <;> simp
  · obtain rfl : j = w - 1 := by omega
    have e : c.getLsbD (w - 1 + 1) = false := BitVec.getLsbD_of_ge _ _ (by omega)
    simp [if_neg h1, e, hw]
    rw [Bool.xor_comm]
theorem num_zeros (n : Nat) : num w (List.replicate n false) = 0#w := by
  induction n with
  | zero => rfl
  | succ n ih => rw [List.replicate_succ, num, ih]; simp [b1]
theorem win_last (p : BitVec w) (bits : List Bool) : win p bits bits.length = bitsReg p (BitVec.allOnes w) bits := by
  unfold win
  rw [List.take_length, List.drop_left, num_zeros]; simp
/-! a burst -/
theorem num_zero_iff (l : List Bool) (h : l.length ≤ w) : num w l = 0#w ↔ ∀ i, l.getD i false = false := by
  constructor
  · intro h0 i
    by_cases hi : i < w
    · rw [← num_lsb l i hi, h0]; simp
    · rw [List.getD_eq_getElem?_getD, List.getElem?_eq_none (by omega)]; rfl
  · intro h0
    apply BitVec.eq_of_getLsbD_eq
    intro i hi
    rw [num_lsb l i hi, h0 i]; simp
theorem all_false (l : List Bool) (h : ∀ i, l.getD i false = false) : l = List.replicate l.length false := by
  apply List.ext_getElem (by simp)
  intro i h1 h2
  have := h i
  rw [List.getD_eq_getElem?_getD, List.getElem?_eq_getElem h1] at this
  simpa using this
theorem burst_bits (p : BitVec w) (hp : p.msb = true) (M : List Bool) (a : Nat) (hlo : ∀ i, i < a → M.getD i false = false) (hhi : ∀ i, a + w ≤ i → M.getD i false = false) :
    bitsReg p 0#w M = 0#w ↔ ∀ i, M.getD i false = false := by
  constructor
  · intro h0
    have e1 : M = M.take a ++ ((M.drop a).take w ++ (M.drop a).drop w) := by rw [List.take_append_drop, List.take_append_drop]
    have f1 : M.take a = List.replicate (M.take a).length false := by
      apply all_false
      intro i
      by_cases hi : i < a
      · rw [List.getD_eq_getElem?_getD, List.getElem?_take_of_lt hi, ← List.getD_eq_getElem?_getD]; exact hlo i hi
      · rw [List.getD_eq_getElem?_getD, List.getElem?_take_eq_none (by omega)]; rfl
    have f3 : (M.drop a).drop w = List.replicate ((M.drop a).drop w).length false := by
      apply all_false
      intro i
      rw [List.getD_eq_getElem?_getD, List.getElem?_drop, List.getElem?_drop, ← List.getD_eq_getElem?_getD]
      exact hhi _ (by omega)
    rw [e1, bitsReg_append, f1, bitsReg_zeros, steps_zero, bitsReg_append, f3, bitsReg_zeros] at h0
    have h1 := steps_inj p _ _ hp h0
    rw [bitsReg_num p _ _ (by simp; omega)] at h1
    have h2 := steps_inj p _ _ hp h1
    rw [BitVec.zero_xor, num_zero_iff _ (by simp; omega)] at h2
    intro i
    by_cases hi : i < a
    · exact hlo i hi
    by_cases hi2 : a + w ≤ i
    · exact hhi i hi2
    have := h2 (i - a)
    rw [List.getD_eq_getElem?_getD, List.getElem?_take_of_lt (by omega), List.getElem?_drop, ← List.getD_eq_getElem?_getD, show a + (i - a) = i by omega] at this
    exact this
  · intro h0
    rw [all_false M h0, bitsReg_zeros, steps_zero]
theorem bits8_length (b : BitVec 8) : (bits8 b).length = 8 := by simp [bits8]
theorem bitsOf_length (l : List (BitVec 8)) : (bitsOf l).length = 8 * l.length := by
  induction l with
  | nil => rfl
  | cons b l ih => simp only [bitsOf, List.flatMap_cons, List.length_append, bits8_length, List.length_cons] at *; omega
theorem bitsOf_getD (l : List (BitVec 8)) (k : Nat) : (bitsOf l).getD k false = (l.getD (k / 8) 0#8).getLsbD (k % 8) := by
  induction l generalizing k with
  | nil => simp [bitsOf]
  | cons b l ih =>
    simp only [bitsOf, List.flatMap_cons] at ih ⊢
    by_cases hk : k < 8
    · rw [List.getD_eq_getElem?_getD, List.getElem?_append_left (by simpa [bits8_length] using hk), show k / 8 = 0 by omega, show k % 8 = k by omega]
      simp [bits8, hk]
    · rw [List.getD_eq_getElem?_getD, List.getElem?_append_right (by simp [bits8_length]; omega), bits8_length, ← List.getD_eq_getElem?_getD, ih]
      obtain ⟨m, rfl⟩ : ∃ m, k = m + 8 := ⟨k - 8, by omega⟩
      rw [show (m + 8) / 8 = m / 8 + 1 by omega, show m + 8 - 8 = m by omega, show (m + 8) % 8 = m % 8 by omega]
      rfl
/-- the difference of two sums is the register behind the difference of the bytes -/
theorem crcReg_diff (p c : BitVec w) (x y : List (BitVec 8)) (h : x.length = y.length) : crcReg p c x = crcReg p c y ↔ crcReg p 0#w (List.zipWith (· ^^^ ·) x y) = 0#w := by
  have e := crcReg_xor p c c x y h
  rw [BitVec.xor_self] at e
  rw [e]
  constructor
  · intro h1; rw [h1, BitVec.xor_self]
  · intro h1
    have := congrArg (fun z => z ^^^ crcReg p c y) h1
    simpa [BitVec.xor_assoc] using this
theorem burst (p c : BitVec w) (hw : 8 ≤ w) (hp : p.msb = true) (x y : List (BitVec 8)) (h : x.length = y.length) (a : Nat) (f : Nat → Bool)
    (hf : ∀ i, w ≤ i → f i = false)
    (hb : ∀ k, k < 8 * y.length → (x.getD (k / 8) 0#8).getLsbD (k % 8) = ((y.getD (k / 8) 0#8).getLsbD (k % 8) ^^ (decide (a ≤ k) && f (k - a)))) :
    crcReg p c x = crcReg p c y ↔ ∀ k, k < 8 * y.length → (decide (a ≤ k) && f (k - a)) = false := by
  rw [crcReg_diff p c x y h, crcReg_bits _ _ _ hw]
  have hM : ∀ k, (bitsOf (List.zipWith (· ^^^ ·) x y)).getD k false = (decide (k < 8 * y.length) && (decide (a ≤ k) && f (k - a))) := by
    intro k
    rw [bitsOf_getD]
    by_cases hk : k < 8 * y.length
    · have hx : k / 8 < x.length := by omega
      have hy : k / 8 < y.length := by omega
      have e := hb k hk
      simp only [List.getD_eq_getElem?_getD, List.getElem?_eq_getElem hx, List.getElem?_eq_getElem hy, Option.getD_some] at e
      rw [List.getD_eq_getElem?_getD, List.getElem?_eq_getElem (by simp; omega), Option.getD_some, List.getElem_zipWith, BitVec.getLsbD_xor, e]
      generalize (y[k / 8]).getLsbD (k % 8) = u
      cases u <;> simp [hk]
    · rw [List.getD_eq_getElem?_getD, List.getElem?_eq_none (by simp; omega)]
      simp [hk]
  rw [burst_bits p hp _ a (fun i hi => by rw [hM]; simp; omega) (fun i hi => by rw [hM, hf (i - a) (by omega)]; simp)]
  constructor
  · intro h0 k hk; have := h0 k; rw [hM] at this; simpa [hk] using this
  · intro h0 k
    rw [hM]
    by_cases hk : k < 8 * y.length
    · rw [h0 k hk]; simp
    · simp [hk]
theorem crcReg_inj (p c d : BitVec w) (l : List (BitVec 8)) (hp : p.msb = true) : crcReg p c l = crcReg p d l ↔ c = d := by
  constructor
  · intro h
    induction l generalizing c d with
    | nil => exact h
    | cons b l ih =>
      have h1 : byteReg p c b = byteReg p d b := ih _ _ h
      unfold byteReg at h1
      have h2 : steps p 8 ((c ^^^ b.setWidth w) ^^^ (d ^^^ b.setWidth w)) = 0#w := by rw [steps_xor, h1, BitVec.xor_self]
      have h3 := steps_inj p _ _ hp h2
      have h4 : (c ^^^ b.setWidth w) ^^^ (d ^^^ b.setWidth w) = c ^^^ d := by
        rw [BitVec.xor_comm d, BitVec.xor_assoc, xor_can]
      rw [h4] at h3
      have := congrArg (fun z => z ^^^ d) h3
      simpa [BitVec.xor_assoc] using this
  · intro h; rw [h]
theorem own (p c : BitVec w) (l : List (BitVec 8)) (hl : 8 * l.length = w) (h : le w l = ~~~ c) : crcReg p c l = steps p w (BitVec.allOnes w) := by
  rw [crcReg_le p c l (by omega), h, hl]
  congr 1
  apply BitVec.eq_of_getLsbD_eq
  intro i hi
  simp [hi]
theorem le_or (b : BitVec 8) (l : List (BitVec 8)) : le w (b :: l) = b.setWidth w ||| (le w l <<< 8) := by
  rw [le]
  apply BitVec.eq_of_getLsbD_eq
  intro i hi
  rw [BitVec.getLsbD_xor, BitVec.getLsbD_or, BitVec.getLsbD_shiftLeft, BitVec.getLsbD_setWidth]
  by_cases h : i < 8
  · simp [h]
  · have h2 := BitVec.getLsbD_of_ge b i (by omega)
    simp [h2]
theorem shl_shl (x : BitVec w) (m n : Nat) : (x <<< m) <<< n = x <<< (m + n) := (BitVec.shiftLeft_add x m n).symm
theorem le_four (a b c d : BitVec 8) : le w [a, b, c, d] = a.setWidth w ||| b.setWidth w <<< 8 ||| c.setWidth w <<< 16 ||| d.setWidth w <<< 24 := by
  simp only [le_or, BitVec.shiftLeft_or_distrib, shl_shl, BitVec.or_assoc]
  simp [le]
theorem le_low (b : BitVec 8) (l : List (BitVec 8)) (hw : 8 ≤ w) : (le w (b :: l)).toNat &&& 255 = b.toNat := by
  have h : (le w (b :: l)) &&& 255#w = b.setWidth w := by
    rw [le]
    apply BitVec.eq_of_getLsbD_eq
    intro i hi
    have h255 : (255#w).getLsbD i = decide (i < 8) := by
      rw [BitVec.getLsbD_ofNat, show (255 : Nat) = 2 ^ 8 - 1 from rfl, Nat.testBit_two_pow_sub_one]
      simp [hi]
    rw [BitVec.getLsbD_and, BitVec.getLsbD_xor, BitVec.getLsbD_shiftLeft, BitVec.getLsbD_setWidth, h255]
    by_cases h : i < 8
    · simp [h]
    · have h2 := BitVec.getLsbD_of_ge b i (by omega)
      simp [h, h2]
  have h2 := congrArg BitVec.toNat h
  have h3 : 2 ^ 8 ≤ 2 ^ w := Nat.pow_le_pow_right (by omega) hw
  rw [BitVec.toNat_and, BitVec.toNat_ofNat, Nat.mod_eq_of_lt (a := 255) (by omega), BitVec.toNat_setWidth, Nat.mod_eq_of_lt (a := b.toNat) (by have := b.isLt; omega)] at h2
  exact h2
theorem le_shr (b : BitVec 8) (l : List (BitVec 8)) (h : 8 * (l.length + 1) ≤ w) : (le w (b :: l)) >>> 8 = le w l := by
  rw [le, BitVec.ushiftRight_xor_distrib, le_back l h]
  have : (b.setWidth w) >>> 8 = 0#w := by
    apply BitVec.eq_of_getLsbD_eq
    intro i hi
    rw [BitVec.getLsbD_ushiftRight, BitVec.getLsbD_setWidth]
    simp [BitVec.getLsbD_of_ge]
  rw [this]; simp
theorem byte_and (c : BitVec w) (b : BitVec 8) (hw : 8 ≤ w) : (c.setWidth 8 ^^^ b).toNat = (c ^^^ b.setWidth w).toNat &&& 255 := by
  have h : c.setWidth 8 ^^^ b = (c ^^^ b.setWidth w).setWidth 8 := by
    rw [BitVec.setWidth_xor]
    congr 1
    apply BitVec.eq_of_getLsbD_eq
    intro i hi
    simp only [BitVec.getLsbD_setWidth]
    simp [hi, show i < w by omega]
  rw [h, BitVec.toNat_setWidth, ← Nat.and_two_pow_sub_one_eq_mod]
/-- eight bytes at a time, 32 bits -/
theorem slice32 (p r : BitVec 32) (b0 b1 b2 b3 b4 b5 b6 b7 : BitVec 8) (x : BitVec 32) (hx : x = r ^^^ le 32 [b0, b1, b2, b3]) :
    T p 0 b7.toNat ^^^ T p 1 b6.toNat ^^^ T p 2 b5.toNat ^^^ T p 3 b4.toNat ^^^ T p 4 (x >>> 24).toNat ^^^ T p 5 (x >>> 16 &&& 255#32).toNat ^^^ T p 6 (x >>> 8 &&& 255#32).toNat ^^^ T p 7 (x &&& 255#32).toNat
      = crcReg p r [b0, b1, b2, b3, b4, b5, b6, b7] := by
  have e1 : crcReg p r [b0, b1, b2, b3, b4, b5, b6, b7] = steps p (8 * (7 + 1)) x ^^^ steps p (8 * (3 + 1)) (le 32 [b4, b5, b6, b7]) := by
    rw [show [b0, b1, b2, b3, b4, b5, b6, b7] = [b0, b1, b2, b3] ++ [b4, b5, b6, b7] from rfl, crcReg_append, crcReg_le p r _ (by simp), crcReg_le p _ [b4, b5, b6, b7] (by simp), ← hx, steps_xor]
    simp only [List.length_cons, List.length_nil]
    rw [← steps_add]
  rw [e1]
  have z : ∀ y : BitVec 32, steps p (8 * 0) y = y := fun _ => rfl
  rw [steps_T p x 7 (by decide), steps_T p (x >>> 8) 6 (by decide), steps_T p (x >>> 8 >>> 8) 5 (by decide), steps_T p (x >>> 8 >>> 8 >>> 8) 4 (by decide)]
  have e2 : x >>> 8 >>> 8 >>> 8 >>> 8 = 0#32 := by
    rw [← BitVec.shiftRight_add, ← BitVec.shiftRight_add, ← BitVec.shiftRight_add]
    exact BitVec.ushiftRight_eq_zero (by decide)
  rw [e2, steps_zero, BitVec.xor_zero]
  rw [steps_T p _ 3 (by decide), le_low _ _ (by decide), le_shr _ _ (by simp), steps_T p _ 2 (by decide), le_low _ _ (by decide), le_shr _ _ (by simp), steps_T p _ 1 (by decide), le_low _ _ (by decide), le_shr _ _ (by simp), steps_T p _ 0 (by decide), le_low _ _ (by decide), le_shr _ _ (by simp), z]
  have e3 : (x >>> 8 >>> 8 >>> 8).toNat &&& 255 = (x >>> 24).toNat := by
    rw [← BitVec.shiftRight_add, ← BitVec.shiftRight_add, show (255 : Nat) = 2 ^ 8 - 1 from rfl, Nat.and_two_pow_sub_one_eq_mod]
    apply Nat.mod_eq_of_lt
    rw [BitVec.toNat_ushiftRight, Nat.shiftRight_eq_div_pow]
    have := x.isLt
    omega
  rw [e3, ← BitVec.shiftRight_add]
  simp only [BitVec.toNat_and, show (255#32).toNat = 255 from rfl, le, Nat.reduceAdd]
  simp only [BitVec.xor_assoc, BitVec.xor_zero]
  ac_rfl
end Go.Proofs.Ytocolnikidfbnaa.Crc
