/- A sum of 64 bits: what update returns (made by mkup.py out of shared blocks). -/
import Derived.Test.YtocolnikidfbnaaChecked
import Derived.Test.YtocolnikidfbnaaMt
import Derived.Test.YtocolnikidfbnaaEq
import Derived.Test.YtocolnikidfbnaaLe64
import Derived.WalkKit
import Derived.LoopTactic
import Derived.Deep.QuietTactic
import Derived.BigQuiet
import Derived.Deep.RegionHeld3
import Derived.OrdersHeld
namespace Go.Proofs.Ytocolnikidfbnaa
open Go.RowKit
def sliceLen : Value → Nat | .slice _ n _ => n | _ => 0
theorem shr32 {w : Nat} (a : BitVec w) : u a / (4294967296 : Int) = u (a >>> 32) := shr_u a 32
theorem shr40 {w : Nat} (a : BitVec w) : u a / (1099511627776 : Int) = u (a >>> 40) := shr_u a 40
theorem shr48 {w : Nat} (a : BitVec w) : u a / (281474976710656 : Int) = u (a >>> 48) := shr_u a 48
theorem shr56 {w : Nat} (a : BitVec w) : u a / (72057594037927936 : Int) = u (a >>> 56) := shr_u a 56
attribute [go_sem] shr32 shr40 shr48 shr56
theorem exec_load_cells {P : Program} {o : Oper} {a : Act} {w : World} (ty : TypeId) (x : Operand) (ho : o.op = .load ty x)
    (g off : Nat) (hx : a.eval x = .pointer (some ⟨g, off, none⟩)) (cs : Array Value) (d : TypeDesc) (hc : ∀ (j : Nat) v, cs[j]? = some v → w.cell? ⟨g, off + j, none⟩ = some v)
    (hu : P.underlying ty = some d) (hd : (match d with | .struct _ | .array _ _ => true | _ => false) = true) (hi : (P.info? ty).map (·.size) = some cs.size) :
    (execOp a.eval o).run P w = .ok (.value (.agg cs)) w := by
  unfold execOp
  simp only [ho, hx, Instr.loadAt, Instr.sureAddr, Sem.run_bind, Sem.run_pure, Result.andThen_ok, run_loadVar_cells w g off ty cs d hc hu hd hi]
theorem exec_eq {o : Oper} {a : Act} {w : World} (x y : Operand) (p q : BitVec 64) (b : Bool) (hb : (p == q) = b) (ho : o.op = .binOp .eql 56 x y 56) (hx : a.eval x = .agg (tabArr p)) (hy : a.eval y = .agg (tabArr q)) :
    (execOp a.eval o).run Try.prog w = .ok (.value (.bool b)) w := by
  have hg : Try.prog.eqGuardType Try.prog.depth 56 = false := by kernel_rfl
  have he := eq_tabs p q w
  rw [hb] at he
  unfold execOp
  simp only [ho, hx, hy]
  simp [eqGuard, binOp, hg, he]
theorem upd_step (p : BitVec 64) (c : BitVec 64) (l : List (BitVec 8)) (k : Nat) (h : k < l.length) :
    Crc.T p 0 (u ((Crc.crcReg p (~~~ c) (l.take k)).setWidth 8 ^^^ nth l k)).toNat ^^^ (Crc.crcReg p (~~~ c) (l.take k)) >>> 8 = Crc.crcReg p (~~~ c) (l.take (k + 1)) := by
  rw [take_succ_nth l k h, Crc.crcReg_append]
  show _ = Crc.byteReg p _ _
  rw [Crc.byteReg_T p _ _ (by decide), u_toNat, Crc.byte_and _ _ (by decide)]
theorem top_lt (x : BitVec 64) : u (x >>> 56) < 256 := by
  unfold u
  rw [BitVec.toNat_ushiftRight, Nat.shiftRight_eq_div_pow]
  have := x.isLt
  omega
theorem slice64 (p r : BitVec 64) (l8 : List (BitVec 8)) (h8 : l8.length = 8) (x : BitVec 64) (hx : x = r ^^^ Crc.le 64 l8) :
    Crc.T p 7 (u (x &&& 255#64)).toNat ^^^ Crc.T p 6 (u (x >>> 8 &&& 255#64)).toNat ^^^ Crc.T p 5 (u (x >>> 16 &&& 255#64)).toNat ^^^ Crc.T p 4 (u (x >>> 24 &&& 255#64)).toNat ^^^ Crc.T p 3 (u (x >>> 32 &&& 255#64)).toNat ^^^ Crc.T p 2 (u (x >>> 40 &&& 255#64)).toNat ^^^ Crc.T p 1 (u (x >>> 48 &&& 255#64)).toNat ^^^ Crc.T p 0 (u (x >>> 56)).toNat = Crc.crcReg p r l8 := by
  rw [Crc.crcReg_le p r l8 (by omega), h8, ← hx]
  have z : ∀ y : BitVec 64, Crc.steps p (8 * 0) y = y := fun _ => rfl
  have hs : ∀ m n : Nat, x >>> m >>> n = x >>> (m + n) := fun m n => (BitVec.shiftRight_add x m n).symm
  rw [show 8 * 8 = 8 * (7 + 1) from rfl, Crc.steps_T p x 7 (by decide), Crc.steps_T p _ 6 (by decide), Crc.steps_T p _ 5 (by decide), Crc.steps_T p _ 4 (by decide), Crc.steps_T p _ 3 (by decide), Crc.steps_T p _ 2 (by decide), Crc.steps_T p _ 1 (by decide), Crc.steps_T p _ 0 (by decide), z]
  simp only [hs, Nat.reduceAdd]
  have e3 : (x >>> 56).toNat &&& 255 = (x >>> 56).toNat := by
    rw [show (255 : Nat) = 2 ^ 8 - 1 from rfl, Nat.and_two_pow_sub_one_eq_mod]
    apply Nat.mod_eq_of_lt
    rw [BitVec.toNat_ushiftRight, Nat.shiftRight_eq_div_pow]
    have := x.isLt
    omega
  have e4 : x >>> 64 = 0#64 := BitVec.ushiftRight_eq_zero (by decide)
  rw [e3, e4]
  simp only [u_toNat, BitVec.toNat_and, show (255#64).toNat = 255 from rfl, BitVec.xor_assoc, BitVec.xor_zero]
theorem drop8 (l : List (BitVec 8)) (m : Nat) : l.take (m + 8) = l.take m ++ (l.drop m).take 8 := by
  rw [List.take_add]
/-- the cells of the eight tables -/
def TabCells (w : World) (g : Nat) (p : BitVec 64) : Prop := ∀ k n, k < 8 → n < 256 → w.cell? ⟨g, k * 256 + n, none⟩ = some (.int .u64 (u (Crc.T p k n)))
theorem tabCells_of {w : World} {g : Nat} {t : TypeId} {cs : Array Value} {p : BitVec 64} (hB : Blk w g t cs) (hT : Tabs p 256 1 cs) : TabCells w g p := by
  intro k n hk hn
  rw [hB.cell]
  exact hT k n hk hn (by omega)
theorem byte_lt (x : BitVec 8) : u x < 256 := u_lt x
theorem byte_lt' (x : BitVec 8) : (u x).toNat < 256 := by have := byte_lt x; omega
theorem sum_done (p c : BitVec 64) (l : List (BitVec 8)) (k : Nat) (h : k = l.length) : ~~~ Crc.crcReg p (~~~ c) (l.take k) = Crc.sum p c l := by
  rw [h, List.take_length]; rfl
/-- what a sum leaves -/
def SumPost (r : BitVec 64) (w : World) (e : Ending) (w' : World) : Prop := e = .returned (.int .u64 (u r)) ∧ Below w.heap.size w w'
theorem upd_ecma (p : BitVec 64) (h : p = ecma) (w : World) : Calls Try.prog 23 #[] w (TabsPost p w) := by rw [h]; exact ecma_any w
theorem upd_iso (p : BitVec 64) (h : p = iso) (w : World) : Calls Try.prog 22 #[] w (TabsPost p w) := by rw [h]; exact iso_any w
set_option maxRecDepth 100000 in
set_option maxHeartbeats 400000 in
theorem update_small (p c : BitVec 64) (g : Nat) (A : Option Addr) (l : List (BitVec 8)) (n cap B : Nat) (w : World) (hn : n = l.length) (hm : n < 64) (hA : Bytes w B A l) (hT : TabAt w g p) :
    Calls Try.prog 25 #[.int .u64 (u c), .pointer (some ⟨g, 0, none⟩), .slice A n cap] w (SumPost (Crc.sum p c l) w) := by
  have Hn : Hid (n = l.length) := hn
  have HT : Hid (TabAt w g p) := hT
  clear hn hT
  have hd : decide ((64 : Int) ≤ (n : Int)) = false := decide_eq_false (by omega)
  go_enter Try.func25, Try.ntmps25
  go_wp2_with fail
  refine wp_loop_rounds 1 ?_
  rw [rounds_succ]
  go_wp2_with fail
  go_loop [0, 9, 118] (fun r _ i => ∃ k : Nat, k ≤ n ∧ i = .int .i64 k ∧ r = .int .u64 (u (Crc.crcReg p (~~~ c) (l.take k)))) (fun _ _ i => n - (intOf i).toNat)
  case atStart => exact ⟨0, by omega, rfl, rfl⟩
  case round =>
    obtain ⟨k, hk, rfl, rfl⟩ := hrel
    by_cases hlt : k < n
    · obtain ⟨b, off, rfl, hb, hc⟩ := hA (by rw [← Hn.out]; omega)
      have hck := hc k (by rw [← Hn.out]; exact hlt)
      have hlo := u_nonneg ((Crc.crcReg p (~~~ c) (l.take k)).setWidth 8 ^^^ nth l k)
      have hhi := byte_lt ((Crc.crcReg p (~~~ c) (l.take k)).setWidth 8 ^^^ nth l k)
      have hct := HT.out _ (byte_lt' ((Crc.crcReg p (~~~ c) (l.take k)).setWidth 8 ^^^ nth l k))
      clear hc hA
      go_wp2_with fail
      go_round
      case rel => exact ⟨k + 1, by omega, by go_num, by rw [upd_step p c l k (by rw [← Hn.out]; exact hlt)]⟩
      case measure => simp [intOf]; omega
    · obtain rfl : k = n := by omega
      go_wp2_with fail
      go_ret
      exact ⟨ret_u (sum_done p c l k Hn.out), Below.refl _ _⟩
end Go.Proofs.Ytocolnikidfbnaa
