/- A slice of byte slices: what its cells hold; zzFits1. -/
import Derived.Test.YtocolnikidfbnaaChecked
import Derived.Test.YtocolnikidfbnaaMem
import Derived.Test.YtocolnikidfbnaaBase
import Derived.WalkKit
import Derived.LoopTactic
namespace Go.Proofs.Ytocolnikidfbnaa
open Go.RowKit
/-- a slice's address leads, below block B, to m cells, each a slice of bytes that reads as l r -/
def Pieces (w : World) (B : Nat) (P : Option Addr) (m : Nat) (A : Nat → Option Addr) (C : Nat → Nat) (l : Nat → List (BitVec 8)) : Prop :=
  0 < m → ∃ b off, P = some ⟨b, off, none⟩ ∧ b < B ∧ ∀ r, r < m → w.cell? ⟨b, off + r, none⟩ = some (.slice (A r) (l r).length (C r)) ∧ (l r).length ≤ C r ∧ Bytes w B (A r) (l r)
theorem Pieces.below {w w' : World} {B K : Nat} {P : Option Addr} {m : Nat} {A : Nat → Option Addr} {C : Nat → Nat} {l : Nat → List (BitVec 8)} (h : Pieces w B P m A C l) (hb : Below K w w') (hBK : B ≤ K) : Pieces w' B P m A C l := by
  intro hm
  obtain ⟨b, off, rfl, hlt, hc⟩ := h hm
  refine ⟨b, off, rfl, hlt, fun r hr => ?_⟩
  obtain ⟨h1, h2, h3⟩ := hc r hr
  exact ⟨(hb.cell (p := ⟨b, off + r, none⟩) (by show b < K; omega)).trans h1, h2, h3.below hb hBK⟩
theorem Pieces.nil (w : World) (B : Nat) (P : Option Addr) (A : Nat → Option Addr) (C : Nat → Nat) (l : Nat → List (BitVec 8)) : Pieces w B P 0 A C l := fun h => absurd h (by omega)
/-- a bool that says whether the text fits -/
def fits (m : Nat) (l : Nat → List (BitVec 8)) : Prop := m ≤ 2147483647 ∧ ∀ r, r < m → (l r).length ≤ 2147483647
def FitPost (m : Nat) (l : Nat → List (BitVec 8)) (w : World) (e : Ending) (w' : World) : Prop := ∃ b, e = .returned (.bool b) ∧ (b = true → fits m l) ∧ w = w'
theorem fits_any (P : Option Addr) (m cap B : Nat) (A : Nat → Option Addr) (C : Nat → Nat) (l : Nat → List (BitVec 8)) (w : World) (hP : Pieces w B P m A C l) :
    Calls Try.prog 7 #[.slice P m cap] w (FitPost m l w) := by
  by_cases hbig : 2147483647 < m
  · go_enter Try.func7, Try.ntmps7
    go_wp2_with fail
    go_ret
    exact ⟨false, rfl, fun h => (by cases h), rfl⟩
  go_enter Try.func7, Try.ntmps7
  go_wp2_with fail
  go_loop [4, 10] (fun _ i => ∃ k : Nat, k ≤ m ∧ i = .int .i64 k ∧ Hid (∀ r, r < k → (l r).length ≤ 2147483647)) (fun _ i => m - (intOf i).toNat)
  case atStart => exact ⟨0, by omega, rfl, fun r hr => absurd hr (by omega)⟩
  case round =>
    obtain ⟨k, hk, rfl, Hk⟩ := hrel
    by_cases hlt : k < m
    · obtain ⟨b, off, rfl, hb, hc⟩ := hP (by omega)
      obtain ⟨hck, _, _⟩ := hc k hlt
      clear hc hP
      obtain ⟨q, Hq⟩ : ∃ q : Nat, Hid (q = (l k).length) := ⟨_, rfl⟩
      rw [← Hq.out] at hck
      by_cases hb2 : 2147483647 < q
      · go_wp2_with fail
        go_ret
        exact ⟨false, rfl, fun h => (by cases h), rfl⟩
      · go_wp2_with fail
        go_round
        case rel =>
          refine ⟨k + 1, by omega, by go_num, fun r hr => ?_⟩
          rcases Nat.lt_or_ge r k with h | h
          · exact Hk.out r h
          · obtain rfl : r = k := by omega
            have := Hq.out; omega
        case measure => simp [intOf]; omega
    · obtain rfl : k = m := by omega
      go_wp2_with fail
      go_ret
      exact ⟨true, rfl, fun _ => ⟨by omega, Hk.out⟩, rfl⟩
end Go.Proofs.Ytocolnikidfbnaa
