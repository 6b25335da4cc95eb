/- The bytes of a number of 64 bits, the lowest first: what Low64 returns. -/
import Derived.Test.YtiibhdhmkjpafaaChecked
import Derived.Test.YtiibhdhmkjpafaaLow
import Derived.Test.YtiibhdhmkjpafaaBy
import Derived.Test.YtiibhdhmkjpafaaPlain
import Derived.WalkKit
import Derived.LoopTactic
namespace Go.Proofs.Ytiibhdhmkjpafaa
open Go.RowKit
/-- k bytes of a number, the lowest first -/
def lows : Nat → BitVec 64 → List (BitVec 8)
  | 0, _ => []
  | k + 1, x => x.setWidth 8 :: lows k (x >>> 8)
theorem le_lows (k : Nat) : ∀ (x : BitVec 64) (i : Nat), i < 64 → (Crc.le 64 (lows k x)).getLsbD i = (decide (i < 8 * k) && x.getLsbD i) := by
  induction k with
  | zero => intro x i _; simp [lows, Crc.le]
  | succ k ih =>
    intro x i hi
    rw [lows, Crc.le_or, BitVec.getLsbD_or, BitVec.getLsbD_shiftLeft, BitVec.getLsbD_setWidth, BitVec.getLsbD_setWidth]
    by_cases h : i < 8
    · simp [h, hi, show i < 8 * (k + 1) by omega]
    · rw [ih _ _ (by omega), BitVec.getLsbD_ushiftRight, show 8 + (i - 8) = i by omega]
      simp [h, hi, show (i - 8 < 8 * k) = (i < 8 * (k + 1)) by simp; omega]
/-- eight bytes of a number -/
def low8 (n : BitVec 64) : List (BitVec 8) := low4 (n.setWidth 32) ++ low4 ((n >>> 32).setWidth 32)
theorem low8_lows (x : BitVec 64) : low8 x = lows 8 x := by
  have hb : ∀ k m, k + 8 ≤ 32 → BitVec.setWidth 8 (BitVec.setWidth 32 (x >>> m) >>> k) = BitVec.setWidth 8 (x >>> (m + k)) := by
    intro k m hk
    apply BitVec.eq_of_getLsbD_eq
    intro i hi
    simp only [BitVec.getLsbD_setWidth, BitVec.getLsbD_ushiftRight]
    simp [hi, show k + i < 32 by omega, Nat.add_assoc]
  have h0 := hb 0 0 (by omega); have h1 := hb 8 0 (by omega); have h2 := hb 16 0 (by omega); have h3 := hb 24 0 (by omega)
  have h4 := hb 0 32 (by omega); have h5 := hb 8 32 (by omega); have h6 := hb 16 32 (by omega); have h7 := hb 24 32 (by omega)
  simp only [BitVec.ushiftRight_zero, Nat.zero_add, Nat.add_zero, Nat.reduceAdd] at h0 h1 h2 h3 h4 h5 h6 h7
  simp only [low8, low4, lows, List.cons_append, List.nil_append, h0, h1, h2, h3, h4, h5, h6, h7, ← BitVec.shiftRight_add, Nat.reduceAdd]
theorem le_low8 (x : BitVec 64) : Crc.le 64 (low8 x) = x := by
  rw [low8_lows]
  apply BitVec.eq_of_getLsbD_eq
  intro i hi
  rw [le_lows 8 x i hi]
  simp [hi]
theorem to32_64 (a : BitVec 64) : IntKind.u32.wrap (u a) = u (a.setWidth 32) := by
  unfold u
  simp [IntKind.wrap, IntKind.bits, IntKind.signed]
theorem shr32 {w : Nat} (a : BitVec w) : u a / (4294967296 : Int) = u (a >>> 32) := shr_u a 32
attribute [go_sem] to32_64 shr32
theorem low64_any (n : BitVec 64) (w : World) : Calls Try.prog 11 #[.int .u64 (u n)] w (LowPost (low8 n) 8 w) := by
  go_enter Try.func11, Try.ntmps11
  go_wp2_with fail
  refine (low32_any (n.setWidth 32) w).mono ?_
  rintro e w1 ⟨A1, c1, rfl, hc1, ho1, hb1⟩
  go_wp2_with fail
  refine (low32_any ((n >>> 32).setWidth 32) w1).mono ?_
  rintro e w2 ⟨A2, c2, rfl, hc2, ho2, hb2⟩
  have hE : Below w1.heap.size w1 w2 := hb2
  obtain ⟨A3, c3, w3, hr3, ho3, hb3, hc3, _⟩ := more_bytes (w0 := w) (owns_below ho1 hE (Nat.le_refl _)) (hb1.trans (hb2.mono hb1.size)) (Nat.le_refl _) A2 _ 4 c2 _ rfl (owns_bytes ho2) (by omega)
  go_wp2_with (at_builtin; refine wpList_run_append rfl (.tmp 5) (.tmp 9) _ _ rfl rfl rfl hr3 ?_)
  go_ret
  exact ⟨A3, c3, rfl, hc3, ho3, hb3⟩
end Go.Proofs.Ytiibhdhmkjpafaa
