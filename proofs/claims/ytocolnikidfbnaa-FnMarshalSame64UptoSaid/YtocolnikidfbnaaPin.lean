/- How an argument that is a slice of byte slices is opened: its pieces as lists; what it holds is at most its bulk. -/
import Derived.Test.YtocolnikidfbnaaRows
import Derived.Test.YtocolnikidfbnaaRow
import Derived.Test.YtocolnikidfbnaaPc
import Derived.Test.YtocolnikidfbnaaMa
import Derived.Deep.Matrix
import Derived.ProofKit
import Derived.OpenShut
namespace Go.Proofs.Ytocolnikidfbnaa
open Go.ChangeShapes Go.WideShapes Go.ChangeAt Go.RowKit
theorem bulk_pos {H : Type} (d : DataW H) : 1 ≤ Rows.uptoBulk d := by
  cases d with
  | lit l => cases l <;> simp [Rows.uptoBulk]
  | _ => simp [Rows.uptoBulk]
theorem bulk_app {H : Type} (a b : List (DataW H)) : Rows.uptoBulkAll (a ++ b) = Rows.uptoBulkAll a + Rows.uptoBulkAll b := by
  induction a with
  | nil => simp [Rows.uptoBulkAll]
  | cons x a ih => simp only [List.cons_append, Rows.uptoBulkAll, ih]; omega
theorem bulk_len {H : Type} (a : List (DataW H)) : a.length ≤ Rows.uptoBulkAll a := by
  induction a with
  | nil => simp
  | cons x a ih => have := bulk_pos x; simp only [Rows.uptoBulkAll, List.length_cons]; omega
theorem bulk_row {H : Type} (k : IntKind) (A : Option Addr) (L : Nat) (zs : List Int) (hL : L ≤ zs.length) (h0 : A = none → zs.length = 0) : L ≤ Rows.uptoBulk (Deep.intRow (H := H) k A L zs) := by
  cases A with
  | none => have := h0 rfl; omega
  | some a =>
    have h1 := bulk_len (H := H) (lits k (zs.take L))
    have h2 : (lits (H := H) k (zs.take L)).length = L := by simp [lits]; omega
    simp only [Deep.intRow, Rows.uptoBulk]
    omega
theorem pieces_of {H : Type} {enc : TypeId × Value → H} {w : World} {fuel : Nat} {a : Option Addr} {len cap : Nat} {x : DataW H × List MemPlace}
    (h : DataW.trod enc Try.prog w 0 (fun _ => true) true fuel 23 [.slice a len cap] = some x) :
    ∃ (A : Nat → Option Addr) (C : Nat → Nat) (l : Nat → List (BitVec 8)), Pieces w w.heap.size a len A C l ∧ (cat l len).length ≤ Rows.uptoBulk x.1 := by
  rcases Deep.open_int_rows Try.underlying23 Try.underlying25 Try.underlying5 (by kernel_rfl) (by kernel_rfl) h with ⟨hcs, rfl⟩ | ⟨ad, len', cap', A, L, C, Z, hcs, _, hl, hm, rfl, hc⟩
  · simp at hcs
    obtain ⟨rfl, rfl, rfl⟩ := hcs
    exact ⟨fun _ => none, fun _ => 0, fun _ => [], Pieces.nil _ _ _ _ _ _, by simp [cat]⟩
  · simp at hcs
    obtain ⟨rfl, rfl, rfl⟩ := hcs
    have hrow : ∀ r, ∃ l : List (BitVec 8), r < cap → (L r = l.length ∧ Bytes w w.heap.size (A r) l ∧ L r ≤ C r) := by
      intro r
      by_cases hr : r < cap
      · obtain ⟨_, h1, h2, h3, h4, h5, h6⟩ := hc r hr
        have hR : IsRow .u8 w (A r) (L r) (C r) (Z r) := by
          cases hA : A r with
          | none =>
            have := h5 hA
            exact .inl ⟨rfl, by omega, by omega, List.eq_nil_of_length_eq_zero (by omega)⟩
          | some y => exact .inr ⟨y, rfl, h1, h2, h3, fun i hi => (h6 y hA).2 i (by omega), h4⟩
        obtain ⟨l, h7, h8, h9⟩ := bytes_of hR
        exact ⟨l, fun _ => ⟨h7, h8, h9⟩⟩
      · exact ⟨[], fun h => absurd h hr⟩
    refine ⟨A, C, fun r => Classical.choose (hrow r), fun hp => ?_, ?_⟩
    · obtain ⟨b, off, spot⟩ := ad
      have h0 := (hc 0 (by omega)).1
      have hs : spot = none := by simpa [Addr.add] using World.cell?_spot h0
      subst hs
      refine ⟨b, off, rfl, ?_, fun r hr => ?_⟩
      · have := block_lt_of_cell h0; simpa [Addr.add] using this
      · obtain ⟨h1, h2, h3⟩ := Classical.choose_spec (hrow r) (by omega)
        rw [← h1]
        exact ⟨by rw [← addr_add]; exact (hc r (by omega)).1, h3, h2⟩
    · have key : ∀ k, k ≤ len → (cat (fun r => Classical.choose (hrow r)) k).length ≤ Rows.uptoBulkAll ((List.range k).map fun r => Deep.intRow (H := H) .u8 (A r) (L r) (Z r)) := by
        intro k
        induction k with
        | zero => intro _; simp [cat]
        | succ k ih =>
          intro hk
          obtain ⟨_, h1, _, h3, _, h5, _⟩ := hc k (by omega)
          have hb := bulk_row (H := H) .u8 (A k) (L k) (Z k) (by omega) (fun hA => by have := h5 hA; omega)
          have h1 := (Classical.choose_spec (hrow k) (by omega)).1
          have := ih (by omega)
          rw [List.range_succ, List.map_append, bulk_app]
          simp only [cat, List.length_append, List.map_cons, List.map_nil, Rows.uptoBulkAll]
          omega
      have := key len (Nat.le_refl _)
      simp only [Rows.uptoBulk]
      omega
end Go.Proofs.Ytocolnikidfbnaa
