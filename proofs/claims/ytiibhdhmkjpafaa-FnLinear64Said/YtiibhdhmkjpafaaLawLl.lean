/- Sums are linear: the law on three texts of one length. -/
import Derived.Test.YtiibhdhmkjpafaaChecked
import Derived.Test.YtiibhdhmkjpafaaUi
import Derived.Test.YtiibhdhmkjpafaaOne
import Derived.Test.YtiibhdhmkjpafaaXor
import Derived.WalkKit
import Derived.LoopTactic
import Derived.IntWalk
import Derived.Deep.QuietTactic
import Derived.BigQuiet
namespace Go.Proofs.Ytiibhdhmkjpafaa
open Go.RowKit
theorem nth_take {l : List (BitVec 8)} {m j : Nat} (h : j < m) : nth (l.take m) j = nth l j := by
  simp [nth, List.getElem?_take_of_lt h]
theorem Bytes.part {w : World} {B b off : Nat} {l : List (BitVec 8)} (k m : Nat) (h : Bytes w B (some ⟨b, off, none⟩) l) : Bytes w B (some ⟨b, off + k, none⟩) ((l.drop k).take m) := by
  intro hl
  rw [List.length_take] at hl
  obtain ⟨b', off', he, hb, hc⟩ := h.tail k (by omega)
  refine ⟨b', off', he, hb, fun j hj => ?_⟩
  rw [List.length_take] at hj
  rw [hc j (by omega), nth_take (by omega)]
theorem crcReg_xor3 (p c d e : BitVec 64) (x y z : List (BitVec 8)) (n : Nat) (hx : n = x.length) (hy : n = y.length) (hz : n = z.length) :
    Crc.crcReg p (c ^^^ d ^^^ e) (xor3 x y z n) = Crc.crcReg p c x ^^^ Crc.crcReg p d y ^^^ Crc.crcReg p e z := by
  rw [← Crc.crcReg_xor p c d x y (by omega), ← Crc.crcReg_xor p _ e _ z (by simp; omega)]
  congr 1
  apply List.ext_getElem?
  intro i
  by_cases h : i < n
  · have h1 : i < x.length := by omega
    have h2 : i < y.length := by omega
    have h3 : i < z.length := by omega
    rw [List.getElem?_eq_getElem (by rw [xor3_length]; exact h), List.getElem?_eq_getElem (by simp; omega)]
    simp [xor3, h1, h2, h3, nth]
  · rw [List.getElem?_eq_none (by rw [xor3_length]; omega), List.getElem?_eq_none (by simp; omega)]
theorem lin3 (p c d e : BitVec 64) (x y z : List (BitVec 8)) (n : Nat) (hx : n = x.length) (hy : n = y.length) (hz : n = z.length) :
    Crc.sum p c x ^^^ Crc.sum p d y ^^^ Crc.sum p e z = Crc.sum p (c ^^^ d ^^^ e) (xor3 x y z n) := by
  have hnot : ∀ a b c : BitVec 64, ~~~ a ^^^ ~~~ b ^^^ ~~~ c = ~~~ (a ^^^ b ^^^ c) := by
    intro a b c
    apply BitVec.eq_of_getLsbD_eq
    intro i hi
    simp [hi]
  unfold Crc.sum
  rw [← hnot c d e, crcReg_xor3 p _ _ _ x y z n hx hy hz, hnot]
set_option maxRecDepth 100000 in
set_option maxHeartbeats 800000 in
theorem law_FnLinear64 (c d e p : BitVec 64) (a : Option Addr) (n cap : Nat) (l : List (BitVec 8)) (hn : n = l.length) {w : World} (hA : Bytes w w.heap.size a l) (hcap : n ≤ cap) :
    Calls Try.prog 5 #[.int .u64 (u c), .int .u64 (u d), .int .u64 (u e), .int .u64 (u p), .slice a n cap] w fun e w' => e = .returned (.bool true) ∧ Below w.heap.size w w' := by
  have Hn : Hid (n = l.length) := hn
  clear hn
  by_cases hbig : 2147483647 < n
  · go_enter Try.func5, Try.ntmps5
    go_wp2_with fail
    go_ret
    exact ⟨rfl, Below.refl _ _⟩
  obtain ⟨m, hm1, hm2⟩ : ∃ m, 3 * m ≤ n ∧ n < 3 * m + 3 := ⟨n / 3, by omega, by omega⟩
  by_cases hm0 : m = 0
  · subst hm0
    have hq : (n : Int) / 3 = 0 := by omega
    go_enter Try.func5, Try.ntmps5
    go_wp2_with fail
    go_quiet (fail)
    have hbq : Below w.heap.size w (w.drewN nq) := below_drewN _ _ _
    generalize w.drewN nq = wq at *
    obtain ⟨x, y, z, hx, hy, hz⟩ : ∃ x y z : List (BitVec 8), x = [] ∧ y = [] ∧ z = [] := ⟨_, _, _, rfl, rfl, rfl⟩
    have p1 : Bytes wq w.heap.size a x := by rw [hx]; exact Bytes.nil _ _ _
    have p2 : Bytes wq w.heap.size a y := by rw [hy]; exact Bytes.nil _ _ _
    have p3 : Bytes wq w.heap.size a z := by rw [hz]; exact Bytes.nil _ _ _
    have L1 : Hid (0 = x.length) := by rw [hx]; rfl
    have L2 : Hid (0 = y.length) := by rw [hy]; rfl
    have L3 : Hid (0 = z.length) := by rw [hz]; rfl
    clear hx hy hz hA hq
    go_wp2_with fail
    refine (update64_any p c _ x _ _ _ wq L1.out (by omega) (by omega) p1 hbq.size).mono ?_
    rintro e1 w1 ⟨rfl, hb1⟩
    have hbb := hbq.trans (hb1.mono hbq.size)
    have r1 := p1.below hb1 hbq.size
    have r2 := p2.below hb1 hbq.size
    have r3 := p3.below hb1 hbq.size
    clear hb1 p1 p2 p3 hbq
    go_wp2_with fail
    refine (update64_any p d _ y _ _ _ w1 L2.out (by omega) (by omega) r2 hbb.size).mono ?_
    rintro e1 w4 ⟨rfl, hb2⟩
    have hbc := hbb.trans (hb2.mono hbb.size)
    have v1 := r1.below hb2 hbb.size
    have v2 := r2.below hb2 hbb.size
    have v3 := r3.below hb2 hbb.size
    clear hb2 r1 r2 r3 hbb
    go_wp2_with fail
    refine (update64_any p e _ z _ _ _ w4 L3.out (by omega) (by omega) v3 hbc.size).mono ?_
    rintro e1 w5 ⟨rfl, hb3⟩
    have hbd := hbc.trans (hb3.mono hbc.size)
    have g1 := v1.below hb3 hbc.size
    have g2 := v2.below hb3 hbc.size
    have g3 := v3.below hb3 hbc.size
    clear hb3 v1 v2 v3 hbc
    go_wp2_with fail
    refine (xor_any _ _ _ x y z _ _ _ _ L1.out L2.out L3.out (by omega) w5 _ g1 g2 g3 hbd.size).mono ?_
    rintro e1 w6 ⟨A6, c6, rfl, hc6, hA6, hb4⟩
    have hbe := hbd.trans (hb4.mono hbd.size)
    clear hb4 g1 g2 g3 hbd
    go_wp2_with fail
    refine (update64_any p (c ^^^ d ^^^ e) _ _ _ _ _ w6 (xor3_length x y z _).symm (by omega) hc6 hA6 (Nat.le_refl _)).mono ?_
    rintro e1 w7 ⟨rfl, hb5⟩
    have hbf := hbe.trans (hb5.mono hbe.size)
    clear hb5 hA6 hbe
    have hlin := lin3 p c d e x y z _ L1.out L2.out L3.out
    have ht : (u (Crc.sum p c x ^^^ Crc.sum p d y ^^^ Crc.sum p e z) == u (Crc.sum p (c ^^^ d ^^^ e) (xor3 x y z 0))) = true := by rw [hlin]; simp
    clear hlin
    go_wp2_with fail
    rw [ones64_u]
    refine (update64_any p 18446744073709551615#64 _ [0#8] _ _ _ _ rfl (by simp) (by simp) (bytes_new1 w7 _ 0#8) (by simp)).mono ?_
    rintro e1 w8 ⟨rfl, hb6⟩
    have hbg : Below w.heap.size w w8 := hbf.trans (((Below.refl _ _).alloc hbf.size _).trans (hb6.mono (by simp; have := hbf.size; omega)))
    rw [show Crc.sum p 18446744073709551615#64 [0#8] = 18446744073709551615#64 from sum_zero_byte p]
    clear hb6
    go_wp2_with fail
    go_ret
    exact ⟨rfl, hbg⟩
  obtain ⟨b, off, rfl, hbl, hc⟩ := hA (by rw [← Hn.out]; omega)
  have hq : (n : Int) / 3 = (m : Int) := by omega
  have q1 : (m : Int) ≤ (n : Int) := by omega
  have q2 : (0 : Int) ≤ (m : Int) := by omega
  have w2 : IntKind.i64.wrap (2 * (m : Int)) = 2 * (m : Int) := IntWalk.i64_in _ (by omega)
  have w3 : IntKind.i64.wrap (3 * (m : Int)) = 3 * (m : Int) := IntWalk.i64_in _ (by omega)
  have t2 : (2 * (m : Int)).toNat = 2 * m := by omega
  have t3 : (3 * (m : Int)).toNat = 3 * m := by omega
  have z2 : (0 : Int) ≤ 2 * (m : Int) := by omega
  have z3 : (0 : Int) ≤ 3 * (m : Int) := by omega
  have y1 : (m : Int) ≤ 2 * (m : Int) := by omega
  have y2 : 2 * (m : Int) ≤ 3 * (m : Int) := by omega
  have x1 : 2 * (m : Int) ≤ (cap : Int) := by omega
  have x2 : 3 * (m : Int) ≤ (cap : Int) := by omega
  have x3 : (m : Int) ≤ (cap : Int) := by omega
  have e1 : ¬ cap = m := by omega
  have e2 : ¬ cap = 2 * m := by omega
  have s1 : 2 * m - m = m := by omega
  have s2 : 3 * m - 2 * m = m := by omega
  have hA' : Bytes w w.heap.size (some ⟨b, off, none⟩) l := hA
  clear hA
  go_enter Try.func5, Try.ntmps5
  go_wp2_with fail
  go_quiet (fail)
  have hbq : Below w.heap.size w (w.drewN nq) := below_drewN _ _ _
  generalize w.drewN nq = wq at *
  have hA1 := hA'.below hbq (Nat.le_refl _)
  have p1 : Bytes wq w.heap.size (some ⟨b, off, none⟩) (l.take m) := hA1.part 0 m
  have p2 := hA1.part m m
  have p3 := hA1.part (2 * m) m
  have L1 : Hid (m = (l.take m).length) := by show m = _; rw [List.length_take, ← Hn.out]; omega
  have L2 : Hid (m = ((l.drop m).take m).length) := by show m = _; rw [List.length_take, List.length_drop, ← Hn.out]; omega
  have L3 : Hid (m = ((l.drop (2 * m)).take m).length) := by show m = _; rw [List.length_take, List.length_drop, ← Hn.out]; omega
  generalize l.take m = x at *
  generalize (l.drop m).take m = y at *
  generalize (l.drop (2 * m)).take m = z at *
  clear hA1 hA' hc w2 w3 t2 t3 s1 s2 hq
  go_wp2_with fail
  refine (update64_any p c _ x _ _ _ wq L1.out (by omega) (by omega) p1 hbq.size).mono ?_
  rintro e1 w1 ⟨rfl, hb1⟩
  have hbb := hbq.trans (hb1.mono hbq.size)
  have r1 := p1.below hb1 hbq.size
  have r2 := p2.below hb1 hbq.size
  have r3 := p3.below hb1 hbq.size
  clear hb1 p1 p2 p3 hbq
  go_wp2_with fail
  refine (update64_any p d _ y _ _ _ w1 L2.out (by omega) (by omega) r2 hbb.size).mono ?_
  rintro e1 w4 ⟨rfl, hb2⟩
  have hbc := hbb.trans (hb2.mono hbb.size)
  have v1 := r1.below hb2 hbb.size
  have v2 := r2.below hb2 hbb.size
  have v3 := r3.below hb2 hbb.size
  clear hb2 r1 r2 r3 hbb
  go_wp2_with fail
  refine (update64_any p e _ z _ _ _ w4 L3.out (by omega) (by omega) v3 hbc.size).mono ?_
  rintro e1 w5 ⟨rfl, hb3⟩
  have hbd := hbc.trans (hb3.mono hbc.size)
  have g1 := v1.below hb3 hbc.size
  have g2 := v2.below hb3 hbc.size
  have g3 := v3.below hb3 hbc.size
  clear hb3 v1 v2 v3 hbc
  go_wp2_with fail
  refine (xor_any _ _ _ x y z _ _ _ _ L1.out L2.out L3.out (by omega) w5 _ g1 g2 g3 hbd.size).mono ?_
  rintro e1 w6 ⟨A6, c6, rfl, hc6, hA6, hb4⟩
  have hbe := hbd.trans (hb4.mono hbd.size)
  clear hb4 g1 g2 g3 hbd
  go_wp2_with fail
  refine (update64_any p (c ^^^ d ^^^ e) _ _ _ _ _ w6 (xor3_length x y z _).symm (by omega) hc6 hA6 (Nat.le_refl _)).mono ?_
  rintro e1 w7 ⟨rfl, hb5⟩
  have hbf := hbe.trans (hb5.mono hbe.size)
  clear hb5 hA6 hbe
  have hlin := lin3 p c d e x y z _ L1.out L2.out L3.out
  have ht : (u (Crc.sum p c x ^^^ Crc.sum p d y ^^^ Crc.sum p e z) == u (Crc.sum p (c ^^^ d ^^^ e) (xor3 x y z m))) = true := by rw [hlin]; simp
  clear hlin
  go_wp2_with fail
  rw [ones64_u]
  refine (update64_any p 18446744073709551615#64 _ [0#8] _ _ _ _ rfl (by simp) (by simp) (bytes_new1 w7 _ 0#8) (by simp)).mono ?_
  rintro e1 w8 ⟨rfl, hb6⟩
  have hbg : Below w.heap.size w w8 := hbf.trans (((Below.refl _ _).alloc hbf.size _).trans (hb6.mono (by simp; have := hbf.size; omega)))
  rw [show Crc.sum p 18446744073709551615#64 [0#8] = 18446744073709551615#64 from sum_zero_byte p]
  clear hb6
  go_wp2_with fail
  go_ret
  exact ⟨rfl, hbg⟩
end Go.Proofs.Ytiibhdhmkjpafaa
