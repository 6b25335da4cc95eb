/- A sum eight bytes at a time: what slicingUpdate returns. -/
import Derived.Test.YtfifhmhkmdgplaaChecked
import Derived.Test.YtfifhmhkmdgplaaLe
import Derived.WalkKit
import Derived.Outline
import Derived.LoopTactic
import Derived.Deep.QuietTactic
import Derived.BigQuiet
namespace Go.Proofs.Ytfifhmhkmdgplaa
open Go.RowKit
def sliceLen : Value → Nat | .slice _ n _ => n | _ => 0
theorem upd_T (p c : BitVec 32) (b : BitVec 8) : upd (Crc.T p 0) c b = Crc.byteReg p c b := by
  unfold upd
  rw [Crc.byteReg_T p c b (by decide), u_toNat, Crc.byte_and c b (by decide)]
theorem sumT_T (p c : BitVec 32) (l : List (BitVec 8)) : sumT (Crc.T p 0) c l = Crc.sum p c l := by
  unfold sumT regT Crc.sum Crc.crcReg
  rw [List.take_length, show upd (Crc.T p 0) = Crc.byteReg p from funext fun c => funext fun b => upd_T p c b]
theorem drop8 (l : List (BitVec 8)) (m : Nat) (h : m + 8 ≤ l.length) : l.take (m + 8) = l.take m ++ [nth (l.drop m) 0, nth (l.drop m) 1, nth (l.drop m) 2, nth (l.drop m) 3, nth (l.drop m) 4, nth (l.drop m) 5, nth (l.drop m) 6, nth (l.drop m) 7] := by
  simp only [nth_drop]
  rw [take_succ_nth l (m + 7) (by omega), take_succ_nth l (m + 6) (by omega), take_succ_nth l (m + 5) (by omega), take_succ_nth l (m + 4) (by omega), take_succ_nth l (m + 3) (by omega), take_succ_nth l (m + 2) (by omega), take_succ_nth l (m + 1) (by omega), take_succ_nth l m (by omega)]
  simp
theorem top_lt (x : BitVec 32) : u (x >>> 24) < 256 := by
  unfold u
  rw [BitVec.toNat_ushiftRight, Nat.shiftRight_eq_div_pow]
  have := x.isLt
  omega
/-- the cells of the eight tables, each in the walk's spelling -/
def TabCells (w : World) (g : Nat) (p : BitVec 32) : Prop := ∀ k n, k < 8 → n < 256 → w.cell? ⟨g, k * 256 + n, none⟩ = some (.int .u32 (u (Crc.T p k n)))
theorem TabCells.zero {w : World} {g : Nat} {p : BitVec 32} (h : TabCells w g p) (n : Nat) (hn : n < 256) : w.cell? ⟨g, n, none⟩ = some (.int .u32 (u (Crc.T p 0 n))) := by
  have := h 0 n (by omega) hn
  simpa using this
set_option maxRecDepth 100000 in
set_option maxHeartbeats 400000 in
theorem slicing_small (p c : BitVec 32) (g : Nat) (A : Option Addr) (l : List (BitVec 8)) (n cap B : Nat) (w : World) (hn : n = l.length) (hm : n < 16) (hA : Bytes w B A l) (hT : TabCells w g p) :
    Calls Try.prog 43 #[.int .u32 (u c), .pointer (some ⟨g, 0, none⟩), .slice A n cap] w fun e w' => e = .returned (.int .u32 (u (Crc.sum p c l))) ∧ ∃ k, w' = w.drewN k := by
  have Hn : Hid (n = l.length) := hn
  clear hn
  by_cases h0 : n = 0
  · have H0 : Hid (n = 0) := h0
    have hb : ((n : Int) == 0) = true := beq_iff_eq.2 (by omega)
    clear h0
    go_enter Try.func43, Try.ntmps43
    go_wp2
    go_ret
    have hl : l = [] := List.eq_nil_of_length_eq_zero (by rw [← Hn.out]; exact H0.out)
    exact ⟨ret_u (by rw [hl]; simp [Crc.sum, Crc.crcReg]), 0, rfl⟩
  · have hb : ((n : Int) == 0) = false := beq_eq_false_iff_ne.2 (by omega)
    clear h0
    go_enter Try.func43, Try.ntmps43
    go_wp2_with fail
    refine (update_any (Crc.T p 0) c g A l n cap B w Hn.out (by omega) hA hT.zero).mono ?_
    rintro e w' ⟨rfl, rfl⟩
    go_wp2
    go_ret
    exact ⟨ret_u (sumT_T p c l), 0, rfl⟩
set_option maxRecDepth 100000 in
set_option maxHeartbeats 1000000 in
theorem slicing_big (p c : BitVec 32) (g b off : Nat) (l : List (BitVec 8)) (n cap B : Nat) (w : World) (hn : n = l.length) (hm : n ≤ 140737488355328) (h16 : 16 ≤ n) (hcap : n ≤ cap) (hA : Bytes w B (some ⟨b, off, none⟩) l) (hT : TabCells w g p) :
    Calls Try.prog 43 #[.int .u32 (u c), .pointer (some ⟨g, 0, none⟩), .slice (some ⟨b, off, none⟩) n cap] w fun e w' => e = .returned (.int .u32 (u (Crc.sum p c l))) ∧ ∃ k, w' = w.drewN k := by
  have Hn : Hid (n = l.length) := hn
  have hd16 : decide ((16 : Int) ≤ (n : Int)) = true := decide_eq_true (by omega)
  clear hn
  go_enter Try.func43, Try.ntmps43
  go_wp2
  go_loopw [0, 2] (fun r s wr => ∃ m n' cap' q : Nat, Hid (n' + m = n) ∧ 1 ≤ n' ∧ Hid (cap' + m = cap) ∧ wr = w.drewN q ∧ s = .slice (some ⟨b, off + m, none⟩) n' cap' ∧ r = .int .u32 (u (Crc.crcReg p (~~~ c) (l.take m)))) (fun _ s _ => sliceLen s)
  case atStart => exact ⟨0, n, cap, 0, rfl, by omega, rfl, rfl, rfl, rfl⟩
  case round =>
    obtain ⟨m, n', cap', q, Hm, hn1, Hcap, rfl, rfl, rfl⟩ := hrel
    have hA' : Bytes (w.drewN q) B (some ⟨b, off + m, none⟩) (l.drop m) := hA.tail m
    have Hl : Hid (n' = (l.drop m).length) := by
      show n' = _
      rw [List.length_drop, ← Hn.out, ← Hm.out]; omega
    have hnn : n' ≤ cap' := by have := Hm.out; have := Hcap.out; omega
    have hnm : n' ≤ 140737488355328 := by have := Hm.out; omega
    by_cases hgt : 8 < n'
    · have hpos : 0 < (l.drop m).length := by rw [← Hl.out]; omega
      obtain ⟨b2, off2, he, hbB, hc⟩ := hA' hpos
      injection he with he; injection he with he1 he2 _; subst he1; subst he2
      have hc4 : w.cell? ⟨b, off + m + 4, none⟩ = some (.int .u8 (u (nth (l.drop m) 4))) := hc 4 (by rw [← Hl.out]; omega)
      have hc5 : w.cell? ⟨b, off + m + 5, none⟩ = some (.int .u8 (u (nth (l.drop m) 5))) := hc 5 (by rw [← Hl.out]; omega)
      have hc6 : w.cell? ⟨b, off + m + 6, none⟩ = some (.int .u8 (u (nth (l.drop m) 6))) := hc 6 (by rw [← Hl.out]; omega)
      have hc7 : w.cell? ⟨b, off + m + 7, none⟩ = some (.int .u8 (u (nth (l.drop m) 7))) := hc 7 (by rw [← Hl.out]; omega)
      clear hc
      go_wp2_with fail
      refine (le32_any _ (l.drop m) _ _ B _ Hl.out (by omega) hA').mono ?_
      rintro e w' ⟨rfl, kq, rfl⟩
      clear hA' hA
      have i4 : (4 : Int) < (n' : Int) := by omega
      have i5 : (5 : Int) < (n' : Int) := by omega
      have i6 : (6 : Int) < (n' : Int) := by omega
      have i7 : (7 : Int) < (n' : Int) := by omega
      obtain ⟨x, hx⟩ : ∃ x, x = Crc.crcReg p (~~~ c) (l.take m) ^^^ Crc.le 32 [nth (l.drop m) 0, nth (l.drop m) 1, nth (l.drop m) 2, nth (l.drop m) 3] := ⟨_, rfl⟩
      go_wp2_with fail
      rw [← hx]
      have Hx : Hid (x = Crc.crcReg p (~~~ c) (l.take m) ^^^ Crc.le 32 [nth (l.drop m) 0, nth (l.drop m) 1, nth (l.drop m) 2, nth (l.drop m) 3]) := hx
      clear hx
      have lo0 := u_nonneg (nth (l.drop m) 7)
      have hi0 : u (nth (l.drop m) 7) < 256 := byte_lt _
      have ht0 : w.cell? ⟨g, (u (nth (l.drop m) 7)).toNat, none⟩ = some (.int .u32 (u (Crc.T p 0 (u (nth (l.drop m) 7)).toNat))) := by have := hT 0 (u (nth (l.drop m) 7)).toNat (by omega) (by omega); simpa using this
      have lo1 := u_nonneg (nth (l.drop m) 6)
      have hi1 : u (nth (l.drop m) 6) < 256 := byte_lt _
      have ht1 : w.cell? ⟨g, 256 + (u (nth (l.drop m) 6)).toNat, none⟩ = some (.int .u32 (u (Crc.T p 1 (u (nth (l.drop m) 6)).toNat))) := by have := hT 1 (u (nth (l.drop m) 6)).toNat (by omega) (by omega); simpa using this
      have lo2 := u_nonneg (nth (l.drop m) 5)
      have hi2 : u (nth (l.drop m) 5) < 256 := byte_lt _
      have ht2 : w.cell? ⟨g, 512 + (u (nth (l.drop m) 5)).toNat, none⟩ = some (.int .u32 (u (Crc.T p 2 (u (nth (l.drop m) 5)).toNat))) := by have := hT 2 (u (nth (l.drop m) 5)).toNat (by omega) (by omega); simpa using this
      have lo3 := u_nonneg (nth (l.drop m) 4)
      have hi3 : u (nth (l.drop m) 4) < 256 := byte_lt _
      have ht3 : w.cell? ⟨g, 768 + (u (nth (l.drop m) 4)).toNat, none⟩ = some (.int .u32 (u (Crc.T p 3 (u (nth (l.drop m) 4)).toNat))) := by have := hT 3 (u (nth (l.drop m) 4)).toNat (by omega) (by omega); simpa using this
      have lo4 := u_nonneg (x >>> 24)
      have hi4 : u (x >>> 24) < 256 := top_lt x
      have ht4 : w.cell? ⟨g, 1024 + (u (x >>> 24)).toNat, none⟩ = some (.int .u32 (u (Crc.T p 4 (u (x >>> 24)).toNat))) := by have := hT 4 (u (x >>> 24)).toNat (by omega) (by omega); simpa using this
      have lo5 := u_nonneg (x >>> 16 &&& 255#32)
      have hi5 : u (x >>> 16 &&& 255#32) < 256 := low_lt _
      have ht5 : w.cell? ⟨g, 1280 + (u (x >>> 16 &&& 255#32)).toNat, none⟩ = some (.int .u32 (u (Crc.T p 5 (u (x >>> 16 &&& 255#32)).toNat))) := by have := hT 5 (u (x >>> 16 &&& 255#32)).toNat (by omega) (by omega); simpa using this
      have lo6 := u_nonneg (x >>> 8 &&& 255#32)
      have hi6 : u (x >>> 8 &&& 255#32) < 256 := low_lt _
      have ht6 : w.cell? ⟨g, 1536 + (u (x >>> 8 &&& 255#32)).toNat, none⟩ = some (.int .u32 (u (Crc.T p 6 (u (x >>> 8 &&& 255#32)).toNat))) := by have := hT 6 (u (x >>> 8 &&& 255#32)).toNat (by omega) (by omega); simpa using this
      have lo7 := u_nonneg (x &&& 255#32)
      have hi7 : u (x &&& 255#32) < 256 := low_lt _
      have ht7 : w.cell? ⟨g, 1792 + (u (x &&& 255#32)).toNat, none⟩ = some (.int .u32 (u (Crc.T p 7 (u (x &&& 255#32)).toNat))) := by have := hT 7 (u (x &&& 255#32)).toNat (by omega) (by omega); simpa using this
      go_quiet (fail)
      go_wp2_with fail
      go_roundw
      case rel =>
        have e1 := Crc.slice32 p (Crc.crcReg p (~~~ c) (l.take m)) (nth (l.drop m) 0) (nth (l.drop m) 1) (nth (l.drop m) 2) (nth (l.drop m) 3) (nth (l.drop m) 4) (nth (l.drop m) 5) (nth (l.drop m) 6) (nth (l.drop m) 7) x Hx.out
        rw [← Crc.crcReg_append, ← drop8 l m (by have := Hm.out; have := Hn.out; omega)] at e1
        simp only [← u_toNat] at e1
        rw [e1]
        refine ⟨m + 8, n' - 8, cap' - 8, q + kq + nq, ?_, by omega, ?_, ?_, rfl, rfl⟩
        · have := Hm.out; show _ = _; omega
        · have := Hcap.out; show _ = _; omega
        · rfl
      case measure => simp [sliceLen]; omega
    · have hb8 : ((n' : Int) == 0) = false := beq_eq_false_iff_ne.2 (by omega)
      go_wp2_with fail
      refine (update_any (Crc.T p 0) _ g _ (l.drop m) n' cap' B _ Hl.out (by omega) hA' hT.zero).mono ?_
      rintro e w' ⟨rfl, rfl⟩
      go_wp2
      go_ret
      refine ⟨ret_u ?_, q, rfl⟩
      rw [sumT_T]
      unfold Crc.sum
      rw [BitVec.not_not, ← Crc.crcReg_append, List.take_append_drop]
end Go.Proofs.Ytfifhmhkmdgplaa
