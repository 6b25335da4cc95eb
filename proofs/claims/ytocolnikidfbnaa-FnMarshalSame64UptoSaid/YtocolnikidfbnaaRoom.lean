/- An append that has room, into a block that is known whole, whatever it is tagged as. -/
import Derived.Test.YtocolnikidfbnaaChecked
import Derived.Test.YtocolnikidfbnaaBy
import Derived.WalkKit
namespace Go.Proofs.Ytocolnikidfbnaa
open Go.RowKit
theorem addr_at (b off i : Nat) : (⟨b, off, none⟩ : Addr).add i = ⟨b, off + i, none⟩ := by
  unfold Addr.add
  split
  · rename_i h; subst h; rfl
  · rfl
/-- what stands in a block of which n cells are written -/
def filled (l : List (BitVec 8)) (k : Nat) : Array Value := (l.map byteV ++ List.replicate k (Value.int .u8 0)).toArray
theorem filled_size (l : List (BitVec 8)) (k : Nat) : (filled l k).size = l.length + k := by simp [filled]
theorem filled_more (l m : List (BitVec 8)) (k : Nat) : ((filled l (m.length + k)).toList.take l.length ++ m.map byteV ++ (filled l (m.length + k)).toList.drop (l.length + (m.map byteV).length)).toArray = filled (l ++ m) k := by
  unfold filled
  congr 1
  simp only [List.map_append]
  rw [List.take_append_of_le_length (by simp), List.take_of_length_le (by simp), List.drop_append]
  simp
theorem room_slice {w : World} {g : Nat} {t : TypeId} {l : List (BitVec 8)} {k : Nat} (m : List (BitVec 8)) (hB : Blk w g t (filled l (m.length + k))) (cap B : Nat) (A : Option Addr) (c n q : Nat) (hn : n = l.length) (hq : q = m.length) (hp : 0 < q) (hA : Bytes w B A m) (hroom : n + q ≤ cap) :
    ∃ w', (Builtin.append_ #[25, 25] 25 #[.slice (some ⟨g, 0, none⟩) n cap, .slice A q c]).run Try.prog w = .ok (.slice (some ⟨g, 0, none⟩) (n + q) cap) w' ∧ Blk w' g t (filled (l ++ m) k) ∧ Below g w w' ∧ w'.heap.size = w.heap.size := by
  subst hn hq
  obtain ⟨i0, hi, hz0, hz1, hz2⟩ := info_parts info_byte
  obtain ⟨b, off, rfl, _, hc⟩ := hA.cells (by simp; omega)
  have hf := run_firstCells_some (P := Try.prog) w i0.size m.length ⟨b, off, none⟩ m.length c (m.map byteV) (by rw [hz1, List.length_map]; omega) (fun j x hx => by rw [addr_at]; exact hc j x hx)
  rw [hz1] at hf
  obtain ⟨w2, hst, h2, h3, h4⟩ := hB.stores (P := Try.prog) l.length (m.map byteV) (by rw [filled_size, List.length_map]; omega) (bytes_one m)
  rw [filled_more] at h2
  refine ⟨w2, ?_, h2, h3, h4⟩
  simp [Builtin.append_, run_underlying Try.underlying25, sizeOf, typeInfo, hi, Builtin.lenOf, hroom, hf, Addr.add_lit, hst, hz1]
/-- the state's first four letters -/
def magic : List (BitVec 8) := [99#8, 114#8, 99#8, 2#8]
theorem room_magic {w : World} {g : Nat} {t : TypeId} {k : Nat} (hB : Blk w g t (filled [] (4 + k))) (cap : Nat) (hroom : 4 ≤ cap) :
    ∃ w', (Builtin.append_ #[25, 9] 25 #[.slice (some ⟨g, 0, none⟩) 0 cap, .string ⟨#[99, 114, 99, 2]⟩]).run Try.prog w = .ok (.slice (some ⟨g, 0, none⟩) 4 cap) w' ∧ Blk w' g t (filled magic k) ∧ Below g w w' ∧ w'.heap.size = w.heap.size := by
  obtain ⟨i0, hi, hz0, hz1, hz2⟩ := info_parts info_byte
  have hf : (Builtin.firstCells 1 4 (.string ⟨#[99, 114, 99, 2]⟩)).run Try.prog w = .ok (magic.map byteV).toArray w := by kernel_rfl
  obtain ⟨w2, hst, h2, h3, h4⟩ := hB.stores (P := Try.prog) 0 (magic.map byteV) (by rw [filled_size]; simp [magic]) (bytes_one magic)
  have h5 := filled_more [] magic k
  simp only [List.nil_append] at h5
  rw [show magic.length = 4 from rfl, show ([] : List (BitVec 8)).length = 0 from rfl] at h5
  rw [h5] at h2
  have hl : (⟨#[99, 114, 99, 2]⟩ : ByteArray).size = 4 := rfl
  refine ⟨w2, ?_, h2, h3, h4⟩
  simp [Builtin.append_, run_underlying Try.underlying25, run_underlying Try.underlying9, sizeOf, typeInfo, hi, Builtin.lenOf, hroom, hf, Addr.add_lit, hst, hz1, hl]
end Go.Proofs.Ytocolnikidfbnaa
