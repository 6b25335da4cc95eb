/- The numbers of registers as the walk spells them: 'u c' is the number that a bit vector holds, closed to the walk; the walk's operations on such numbers. -/
import Derived.WalkKit
namespace Go.Proofs.Ytocolnikidfbnaa
open Go.RowKit
/-- the number that a register holds, closed to the walk -/
def u {w : Nat} (c : BitVec w) : Int := c.toNat
theorem u_nonneg {w : Nat} (c : BitVec w) : 0 ≤ u c := Int.natCast_nonneg _
theorem u_lt {w : Nat} (c : BitVec w) : u c < 2 ^ w := by unfold u; exact_mod_cast c.isLt
theorem u_toNat {w : Nat} (c : BitVec w) : (u c).toNat = c.toNat := Int.toNat_natCast _
theorem u_inj {w : Nat} (a b : BitVec w) : u a = u b ↔ a = b := by
  unfold u
  constructor
  · intro h; exact BitVec.eq_of_toNat_eq (by exact_mod_cast h)
  · intro h; rw [h]
theorem u_beq {w : Nat} (a b : BitVec w) : (u a == u b) = (a == b) := by
  rw [Bool.eq_iff_iff]; simp [u_inj]
theorem u_bne {w : Nat} (a b : BitVec w) : (u a != u b) = (a != b) := by
  rw [bne, bne, u_beq]
theorem of_u {w : Nat} (c : BitVec w) : BitVec.ofInt w (u c) = c := by
  unfold u; rw [BitVec.ofInt_natCast, BitVec.ofNat_toNat, BitVec.setWidth_eq]
theorem wr8 (x : BitVec 8) : IntKind.u8.wrap (x.toNat : Int) = u x := by
  have := x.isLt; simp [IntKind.wrap, IntKind.bits, IntKind.signed, u]; omega
theorem wr32 (x : BitVec 32) : IntKind.u32.wrap (x.toNat : Int) = u x := by
  have := x.isLt; simp [IntKind.wrap, IntKind.bits, IntKind.signed, u]; omega
theorem wr64 (x : BitVec 64) : IntKind.u64.wrap (x.toNat : Int) = u x := by
  have := x.isLt; simp [IntKind.wrap, IntKind.bits, IntKind.signed, u]; omega
section
theorem xor8 (a b : BitVec 8) : bits .xor .u8 (u a) (u b) = u (a ^^^ b) := by
  show IntKind.u8.wrap ((BitVec.ofInt 8 (u a) ^^^ BitVec.ofInt 8 (u b)).toNat : Int) = _
  rw [of_u, of_u, wr8]
theorem xor32 (a b : BitVec 32) : bits .xor .u32 (u a) (u b) = u (a ^^^ b) := by
  show IntKind.u32.wrap ((BitVec.ofInt 32 (u a) ^^^ BitVec.ofInt 32 (u b)).toNat : Int) = _
  rw [of_u, of_u, wr32]
theorem xor64 (a b : BitVec 64) : bits .xor .u64 (u a) (u b) = u (a ^^^ b) := by
  show IntKind.u64.wrap ((BitVec.ofInt 64 (u a) ^^^ BitVec.ofInt 64 (u b)).toNat : Int) = _
  rw [of_u, of_u, wr64]
theorem not32 (a : BitVec 32) : bits .xor .u32 4294967295 (u a) = u (~~~ a) := by
  show IntKind.u32.wrap ((BitVec.ofInt 32 4294967295 ^^^ BitVec.ofInt 32 (u a)).toNat : Int) = _
  rw [of_u, wr32, show BitVec.ofInt 32 4294967295 = BitVec.allOnes 32 by decide, BitVec.allOnes_xor]
theorem not64 (a : BitVec 64) : bits .xor .u64 18446744073709551615 (u a) = u (~~~ a) := by
  show IntKind.u64.wrap ((BitVec.ofInt 64 18446744073709551615 ^^^ BitVec.ofInt 64 (u a)).toNat : Int) = _
  rw [of_u, wr64, show BitVec.ofInt 64 18446744073709551615 = BitVec.allOnes 64 by decide, BitVec.allOnes_xor]
theorem or32 (a b : BitVec 32) : bits .or .u32 (u a) (u b) = u (a ||| b) := by
  show IntKind.u32.wrap ((BitVec.ofInt 32 (u a) ||| BitVec.ofInt 32 (u b)).toNat : Int) = _
  rw [of_u, of_u, wr32]
theorem or64 (a b : BitVec 64) : bits .or .u64 (u a) (u b) = u (a ||| b) := by
  show IntKind.u64.wrap ((BitVec.ofInt 64 (u a) ||| BitVec.ofInt 64 (u b)).toNat : Int) = _
  rw [of_u, of_u, wr64]
theorem andk32 (a : BitVec 32) (k : Int) : bits .and .u32 (u a) k = u (a &&& BitVec.ofInt 32 k) := by
  show IntKind.u32.wrap ((BitVec.ofInt 32 (u a) &&& BitVec.ofInt 32 k).toNat : Int) = _
  rw [of_u, wr32]
theorem andk64 (a : BitVec 64) (k : Int) : bits .and .u64 (u a) k = u (a &&& BitVec.ofInt 64 k) := by
  show IntKind.u64.wrap ((BitVec.ofInt 64 (u a) &&& BitVec.ofInt 64 k).toNat : Int) = _
  rw [of_u, wr64]
theorem andk8 (a : BitVec 8) (k : Int) : bits .and .u8 (u a) k = u (a &&& BitVec.ofInt 8 k) := by
  show IntKind.u8.wrap ((BitVec.ofInt 8 (u a) &&& BitVec.ofInt 8 k).toNat : Int) = _
  rw [of_u, wr8]
theorem shr_u {w : Nat} (a : BitVec w) (n : Nat) : u a / 2 ^ n = u (a >>> n) := by
  unfold u
  rw [BitVec.toNat_ushiftRight, Nat.shiftRight_eq_div_pow]
  simp
theorem to8_32 (a : BitVec 32) : IntKind.u8.wrap (u a) = u (a.setWidth 8) := by
  unfold u
  simp [IntKind.wrap, IntKind.bits, IntKind.signed]
theorem to8_64 (a : BitVec 64) : IntKind.u8.wrap (u a) = u (a.setWidth 8) := by
  unfold u
  simp [IntKind.wrap, IntKind.bits, IntKind.signed]
theorem to32_8 (a : BitVec 8) : IntKind.u32.wrap (u a) = u (a.setWidth 32) := by
  have := a.isLt
  unfold u
  simp [IntKind.wrap, IntKind.bits, IntKind.signed]
theorem to64_8 (a : BitVec 8) : IntKind.u64.wrap (u a) = u (a.setWidth 64) := by
  have := a.isLt
  unfold u
  simp [IntKind.wrap, IntKind.bits, IntKind.signed]
end
theorem shr1 {w : Nat} (a : BitVec w) : u a / (2 : Int) = u (a >>> 1) := shr_u a 1
theorem shr8 {w : Nat} (a : BitVec w) : u a / (256 : Int) = u (a >>> 8) := shr_u a 8
theorem shr16 {w : Nat} (a : BitVec w) : u a / (65536 : Int) = u (a >>> 16) := shr_u a 16
theorem shr24 {w : Nat} (a : BitVec w) : u a / (16777216 : Int) = u (a >>> 24) := shr_u a 24
attribute [go_sem] xor8 xor32 xor64 not32 not64 or32 or64 andk8 andk32 andk64 shr1 shr8 shr16 shr24 to8_32 to8_64 to32_8 to64_8
/-- the lowest bit, closed to the walk -/
def odd {w : Nat} (c : BitVec w) : Bool := c.getLsbD 0
theorem one_lsb {w : Nat} (hw : 0 < w) (c : BitVec w) : (u (c &&& 1#w) == (1 : Int)) = odd c := by
  have e1 : (1 : Int) = u (1#w) := by
    unfold u
    rw [BitVec.toNat_ofNat, Nat.mod_eq_of_lt (Nat.one_lt_two_pow (by omega))]; rfl
  unfold odd
  rw [e1, u_beq, Bool.eq_iff_iff, beq_iff_eq]
  constructor
  · intro h
    have := congrArg (fun x => BitVec.getLsbD x 0) h
    simpa [hw] using this
  · intro h
    apply BitVec.eq_of_getLsbD_eq
    intro i hi
    rw [BitVec.getLsbD_and]
    cases i with
    | zero => simpa [hw] using h
    | succ i => simp [BitVec.getLsbD_ofNat, Nat.testBit_succ]
theorem one8 (c : BitVec 8) : (u (c &&& 1#8) == (1 : Int)) = odd c := one_lsb (by decide) c
theorem one32 (c : BitVec 32) : (u (c &&& 1#32) == (1 : Int)) = odd c := one_lsb (by decide) c
theorem one64 (c : BitVec 64) : (u (c &&& 1#64) == (1 : Int)) = odd c := one_lsb (by decide) c
attribute [go_sem] one8 one32 one64
theorem shr_n {w : Nat} (a : BitVec w) (n : Nat) : u a / (2 : Int) ^ n = u (a >>> n) := shr_u a n
attribute [go_sem] shr_n
theorem signed32 : IntKind.u32.signed = false := rfl
theorem signed64 : IntKind.u64.signed = false := rfl
theorem nmax32 (a : BitVec 32) : bits .xor .u32 IntKind.u32.max (u a) = u (~~~ a) := not32 a
theorem nmax64 (a : BitVec 64) : bits .xor .u64 IntKind.u64.max (u a) = u (~~~ a) := not64 a
attribute [go_sem] signed32 signed64 nmax32 nmax64
theorem shl_u {w : Nat} (a : BitVec w) (n : Nat) : u a * (2 : Int) ^ n % (2 : Int) ^ w = u (a <<< n) := by
  unfold u
  rw [BitVec.toNat_shiftLeft, Nat.shiftLeft_eq]
  simp
theorem shl32_8 (a : BitVec 32) : u a * (256 : Int) % (4294967296 : Int) = u (a <<< 8) := shl_u a 8
theorem shl32_16 (a : BitVec 32) : u a * (65536 : Int) % (4294967296 : Int) = u (a <<< 16) := shl_u a 16
theorem shl32_24 (a : BitVec 32) : u a * (16777216 : Int) % (4294967296 : Int) = u (a <<< 24) := shl_u a 24
theorem shl64_8 (a : BitVec 64) : u a * (256 : Int) % (18446744073709551616 : Int) = u (a <<< 8) := shl_u a 8
theorem wshl64_8 (a : BitVec 64) : IntKind.u64.wrap (u a * (256 : Int)) = u (a <<< 8) := by
  rw [← shl64_8]; simp [IntKind.wrap, IntKind.bits, IntKind.signed]
attribute [go_sem] shl32_8 shl32_16 shl32_24 shl64_8 wshl64_8
theorem top32 (a : BitVec 32) : bits .or .u32 (u a) 2147483648 = u (a ||| 2147483648#32) := or32 a 2147483648#32
theorem top64 (a : BitVec 64) : bits .or .u64 (u a) 9223372036854775808 = u (a ||| 9223372036854775808#64) := or64 a 9223372036854775808#64
attribute [go_sem] top32 top64
theorem ret_b {b : Bool} (h : b = true) : Ending.returned (.bool b) = .returned (.bool true) := by rw [h]
theorem ret_u {k : IntKind} {w : Nat} {a b : BitVec w} (h : a = b) : Ending.returned (.int k (u a)) = .returned (.int k (u b)) := by rw [h]
theorem ones_u : (4294967295 : Int) = u (4294967295#32) := rfl
theorem ones64_u : (18446744073709551615 : Int) = u (18446744073709551615#64) := rfl
theorem zero_u : (0 : Int) = u (0#32) := rfl
theorem zero64_u : (0 : Int) = u (0#64) := rfl
end Go.Proofs.Ytocolnikidfbnaa
