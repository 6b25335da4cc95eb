/- Bytes appended: a copy of a slice, and others behind it. -/
import Derived.Test.YtocolnikidfbnaaChecked
import Derived.Test.YtocolnikidfbnaaApp
import Derived.Test.YtocolnikidfbnaaPlain
import Derived.WalkKit
namespace Go.Proofs.Ytocolnikidfbnaa
open Go.RowKit
theorem info_byte : (Try.prog.info? 5).map (fun i => (i.zero, i.size, i.bytes)) = some (some (.int .u8 0), 1, 1) := by kernel_rfl
theorem bytes_one (l : List (BitVec 8)) : ∀ v ∈ l.map byteV, v.oneCell' = true := by
  intro v hv
  obtain ⟨x, _, rfl⟩ := List.mem_map.1 hv
  rfl
/-- append([]byte{}, a...) -/
theorem copy_bytes (w : World) (A : Option Addr) (l : List (BitVec 8)) (n c B : Nat) (hn : n = l.length) (hA : Bytes w B A l) (hB : B ≤ w.heap.size) (hm : n ≤ 140737488355328) :
    ∃ A' c' w', (Builtin.append_ #[25, 25] 25 #[.slice (some ⟨w.heap.size, 0, none⟩) 0 0, .slice A n c]).run Try.prog (w.alloc (.cells #[] 5)) = .ok (.slice A' n c') w' ∧
      w'.ownsRow w.heap.size 5 1 (.slice A' n c') n (l.map byteV) ∧ Below w.heap.size w w' ∧ n ≤ c' := by
  obtain ⟨i0, hi, hz0, hz1, hz2⟩ := info_parts info_byte
  have hbe : Below w.heap.size w (w.alloc (.cells #[] 5)) := (Below.refl _ w).alloc (Nat.le_refl _) _
  obtain ⟨A1, c1, w1, hr1, hown1, _, hb1, hc1, _⟩ := run_app (P := Try.prog) (w.alloc (.cells #[] 5)) w.heap.size 25 25 5 i0 (.int .u8 0) 1 Try.underlying25 hi hz0 hz1 hz2 rfl _ 0 [] (World.ownsRow_made w #[] 0 (Nat.le_refl _) (by unfold maxLen; omega) rfl) B A n c (l.map byteV) (by rw [List.length_map]; exact hn.symm) (hA.cells.below hbe hB) (bytes_one l) (by unfold maxLen; omega) (by omega) hbe.size
  simp only [Nat.zero_add, List.nil_append] at hr1 hown1 hc1
  exact ⟨A1, c1, w1, hr1, hown1, hbe.trans hb1, hc1⟩
/-- append(x, b...) behind it -/
theorem more_bytes {w0 w : World} {A0 : Option Addr} {n0 c0 : Nat} {l0 : List (BitVec 8)} {base : Nat} (hown : w.ownsRow base 5 1 (.slice A0 n0 c0) n0 (l0.map byteV)) (hb : Below base w0 w) (hbase : base ≤ w0.heap.size)
    (A : Option Addr) (l : List (BitVec 8)) (n c B : Nat) (hn : n = l.length) (hA : Bytes w B A l) (hm : n0 + n ≤ 140737488355328) :
    ∃ A' c' w', (Builtin.append_ #[25, 25] 25 #[.slice A0 n0 c0, .slice A n c]).run Try.prog w = .ok (.slice A' (n0 + n) c') w' ∧
      w'.ownsRow base 5 1 (.slice A' (n0 + n) c') (n0 + n) ((l0 ++ l).map byteV) ∧ Below base w0 w' ∧ n0 + n ≤ c' ∧ Bytes w' w'.heap.size A' (l0 ++ l) := by
  obtain ⟨i0, hi, hz0, hz1, hz2⟩ := info_parts info_byte
  obtain ⟨A1, c1, w1, hr1, hown1, _, hb1, hc1, hcell⟩ := run_app (P := Try.prog) w base 25 25 5 i0 (.int .u8 0) 1 Try.underlying25 hi hz0 hz1 hz2 rfl _ n0 _ hown B A n c (l.map byteV) (by rw [List.length_map]; exact hn.symm) hA.cells (bytes_one l) (by unfold maxLen; omega) (by omega) (Nat.le_trans hbase hb.size)
  rw [← List.map_append] at hown1 hcell
  exact ⟨A1, c1, w1, hr1, hown1, hb.trans hb1, hc1, hcell.bytes⟩
theorem owns_bytes {w : World} {base : Nat} {A : Option Addr} {n c : Nat} {l : List (BitVec 8)} (h : w.ownsRow base 5 1 (.slice A n c) n (l.map byteV)) : Bytes w w.heap.size A l := by
  obtain ⟨_, _, he, _, _, hc⟩ := ownsRow_form h
  injection he with h1 _ h3; subst h1; subst h3
  exact hc.bytes
theorem sum_join (p c : BitVec 64) (a b : List (BitVec 8)) : Crc.sum p (Crc.sum p c a) b = Crc.sum p c (a ++ b) := by
  unfold Crc.sum
  rw [BitVec.not_not, Crc.crcReg_append]
theorem sum_nil (p c : BitVec 64) : Crc.sum p c [] = c := by
  unfold Crc.sum Crc.crcReg
  simp
end Go.Proofs.Ytocolnikidfbnaa
