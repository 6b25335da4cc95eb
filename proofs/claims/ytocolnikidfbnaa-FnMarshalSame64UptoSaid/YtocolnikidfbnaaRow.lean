/- How the arguments of a law are opened: integers as registers, slices of bytes as lists. ('IsRow' is the shell's own word.) -/
import Derived.Test.YtocolnikidfbnaaMem
import Derived.Test.YtocolnikidfbnaaApp
import Derived.WalkKit
import Derived.ProofKit
import Derived.OpenShut
namespace Go.Proofs.Ytocolnikidfbnaa
open Go.ChangeShapes Go.WideShapes Go.ChangeAt Go.RowKit
/-- what is known of a slice of integers that came in: it is nil, or it leads to 'cap' cells that hold the numbers zs -/
def IsRow (k : IntKind) (w : World) (a : Option Addr) (len cap : Nat) (zs : List Int) : Prop :=
  (a = none ∧ len = 0 ∧ cap = 0 ∧ zs = []) ∨
  ∃ x, a = some x ∧ len ≤ cap ∧ cap ≤ maxLen ∧ zs.length = cap ∧ (∀ i, i < zs.length → w.cell? (x.add i) = some (.int k (zs.getD i 0))) ∧ ∀ n ∈ zs, (Lit.int k n).wf = true
theorem u_of8 {a : Int} (h : (Lit.int .u8 a).wf = true) : ∃ c : BitVec 8, a = u c := by
  have hb := bounds_u8 h
  exact ⟨BitVec.ofInt 8 a, by unfold u; rw [BitVec.toNat_ofInt]; omega⟩
theorem u_of16 {a : Int} (h : (Lit.int .u16 a).wf = true) : ∃ c : BitVec 16, a = u c := by
  have hb := bounds_u16 h
  exact ⟨BitVec.ofInt 16 a, by unfold u; rw [BitVec.toNat_ofInt]; omega⟩
theorem u_of32 {a : Int} (h : (Lit.int .u32 a).wf = true) : ∃ c : BitVec 32, a = u c := by
  have hb := bounds_u32 h
  exact ⟨BitVec.ofInt 32 a, by unfold u; rw [BitVec.toNat_ofInt]; omega⟩
theorem u_of64 {a : Int} (h : (Lit.int .u64 a).wf = true) : ∃ c : BitVec 64, a = u c := by
  have hb := bounds_u64 h
  exact ⟨BitVec.ofInt 64 a, by unfold u; rw [BitVec.toNat_ofInt]; omega⟩
theorem addr_add (b off i : Nat) : (⟨b, off, none⟩ : Addr).add i = ⟨b, off + i, none⟩ := by
  unfold Addr.add
  split
  · rename_i h; subst h; rfl
  · rfl
theorem row_at {k : IntKind} {w : World} {x : Addr} {zs : List Int} (hc : ∀ i, i < zs.length → w.cell? (x.add i) = some (.int k (zs.getD i 0))) (hp : 0 < zs.length) :
    ∃ b off, x = ⟨b, off, none⟩ ∧ b < w.heap.size ∧ ∀ i, i < zs.length → w.cell? ⟨b, off + i, none⟩ = some (.int k (zs.getD i 0)) := by
  obtain ⟨b, off, spot⟩ := x
  have h0 := hc 0 hp
  have hs : spot = none := by simpa [Addr.add] using World.cell?_spot h0
  subst hs
  refine ⟨b, off, rfl, ?_, fun i hi => ?_⟩
  · have := block_lt_of_cell h0; simpa [Addr.add] using this
  · rw [← addr_add]; exact hc i hi
theorem bytes_of {w : World} {a : Option Addr} {len cap : Nat} {zs : List Int} (h : IsRow .u8 w a len cap zs) :
    ∃ l : List (BitVec 8), len = l.length ∧ Bytes w w.heap.size a l ∧ len ≤ cap := by
  rcases h with ⟨rfl, rfl, rfl, rfl⟩ | ⟨x, rfl, hl, hm, hz, hc, hw⟩
  · exact ⟨[], rfl, Bytes.nil _ _ _, Nat.le_refl _⟩
  · refine ⟨(zs.take len).map (BitVec.ofInt 8), by simp; omega, fun hp => ?_, hl⟩
    have hlen : ((zs.take len).map (BitVec.ofInt 8)).length = len := by simp; omega
    rw [hlen] at hp ⊢
    obtain ⟨b, off, rfl, hb, hcc⟩ := row_at hc (by omega)
    refine ⟨b, off, rfl, hb, fun j hj => ?_⟩
    rw [hcc j (by omega)]
    have hjz : j < zs.length := by omega
    have hwf := bounds_u8 (hw _ (List.getElem_mem hjz))
    have e1 : zs.getD j 0 = zs[j] := by simp [hjz]
    have e2 : nth ((zs.take len).map (BitVec.ofInt 8)) j = BitVec.ofInt 8 zs[j] := by simp [nth, hjz, hj]
    rw [e1, e2]
    congr 2
    unfold u
    rw [BitVec.toNat_ofInt]
    omega
theorem words_of {w : World} {a : Option Addr} {len cap : Nat} {zs : List Int} (h : IsRow .u64 w a len cap zs) :
    ∃ l : List (BitVec 64), len = l.length ∧ Cells w w.heap.size a (l.map wordV) ∧ len ≤ cap := by
  rcases h with ⟨rfl, rfl, rfl, rfl⟩ | ⟨x, rfl, hl, hm, hz, hc, hw⟩
  · exact ⟨[], rfl, fun h => absurd h (by simp), Nat.le_refl _⟩
  · refine ⟨(zs.take len).map (BitVec.ofInt 64), by simp; omega, fun hp => ?_, hl⟩
    have hlen : (((zs.take len).map (BitVec.ofInt 64)).map wordV).length = len := by simp; omega
    rw [hlen] at hp
    obtain ⟨b, off, rfl, hb, hcc⟩ := row_at hc (by omega)
    refine ⟨b, off, rfl, hb, fun j v hv => ?_⟩
    have hj := (List.getElem?_eq_some_iff.1 hv).1
    rw [hlen] at hj
    have hjz : j < zs.length := by omega
    have hwf := bounds_u64 (hw _ (List.getElem_mem hjz))
    have e1 : zs.getD j 0 = zs[j] := by simp [hjz]
    rw [hcc j hjz, e1, ← hv, List.getElem?_map, List.getElem?_map, List.getElem?_take_of_lt hj, List.getElem?_eq_getElem hjz]
    simp only [Option.map_some, wordV]
    congr 2
    unfold u
    rw [BitVec.toNat_ofInt]
    omega
end Go.Proofs.Ytocolnikidfbnaa
