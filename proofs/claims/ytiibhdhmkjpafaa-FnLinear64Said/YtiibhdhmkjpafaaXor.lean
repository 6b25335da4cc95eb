/- Three texts added bit by bit: what Xor returns. -/
import Derived.Test.YtiibhdhmkjpafaaChecked
import Derived.Test.YtiibhdhmkjpafaaBy
import Derived.WalkKit
import Derived.LoopTactic
import Derived.Deep.RegionHeld3
namespace Go.Proofs.Ytiibhdhmkjpafaa
open Go.RowKit
/-- three texts added bit by bit -/
def xor3 (a b c : List (BitVec 8)) (k : Nat) : List (BitVec 8) := (List.range k).map fun i => nth a i ^^^ nth b i ^^^ nth c i
theorem xor3_length (a b c : List (BitVec 8)) (k : Nat) : (xor3 a b c k).length = k := by simp [xor3]
theorem xor3_succ (a b c : List (BitVec 8)) (k : Nat) : (xor3 a b c k).map byteV ++ [.int .u8 (u (nth a k ^^^ nth b k ^^^ nth c k))] = (xor3 a b c (k + 1)).map byteV := by
  simp [xor3, List.range_succ, byteV]
theorem cell_new1 (w : World) (v : Value) (t : TypeId) : Cells (w.alloc (.cells #[v] t)) (w.heap.size + 1) (some ⟨w.heap.size, 0, none⟩) [v] := by
  intro _
  refine ⟨_, _, rfl, by omega, fun j x hx => ?_⟩
  cases j with
  | zero => simp at hx; subst hx; exact (Blk.new w t #[v]).cell 0
  | succ j => simp at hx
/-- what Xor leaves -/
def XorPost (r : List (BitVec 8)) (n : Nat) (w : World) (e : Ending) (w' : World) : Prop := ∃ A c, e = .returned (.slice A n c) ∧ n ≤ c ∧ Bytes w' w'.heap.size A r ∧ Below w.heap.size w w'
set_option maxRecDepth 100000 in
set_option maxHeartbeats 800000 in
theorem xor_any (a b c : Option Addr) (l1 l2 l3 : List (BitVec 8)) (n ca cb cc : Nat) (h1 : n = l1.length) (h2 : n = l2.length) (h3 : n = l3.length) (hm : n ≤ 2147483647) (w : World) (B : Nat)
    (hA : Bytes w B a l1) (hB : Bytes w B b l2) (hC : Bytes w B c l3) (hBB : B ≤ w.heap.size) :
    Calls Try.prog 10 #[.slice a n ca, .slice b n cb, .slice c n cc] w (XorPost (xor3 l1 l2 l3 n) n w) := by
  have H1 : Hid (n = l1.length) := h1
  have H2 : Hid (n = l2.length) := h2
  have H3 : Hid (n = l3.length) := h3
  clear h1 h2 h3
  obtain ⟨i0, hi, hz0, hz1, hz2⟩ := info_parts info_byte
  go_enter Try.func10, Try.ntmps10
  go_wp2_with fail
  go_loopw [7, 8] (fun s i wr => ∃ k : Nat, k ≤ n ∧ i = .int .i64 k ∧ wr.ownsRow w.heap.size 5 1 s k ((xor3 l1 l2 l3 k).map byteV) ∧ Below w.heap.size w wr) (fun _ i _ => n - (intOf i).toNat)
  case atStart => exact ⟨0, by omega, rfl, World.ownsRow_nil _ _ _ _, Below.refl _ _⟩
  case round =>
    obtain ⟨k, hk, rfl, hown, hbr⟩ := hrel
    obtain ⟨A, c', rfl, hcl, _, hcell⟩ := ownsRow_form hown
    by_cases hlt : k < n
    · have hd : decide ((k : Int) < (n : Int)) = true := decide_eq_true (by omega)
      obtain ⟨b1, o1, rfl, hl1, hc1⟩ := hA.below hbr hBB (by rw [← H1.out]; omega)
      obtain ⟨b2, o2, rfl, hl2, hc2⟩ := hB.below hbr hBB (by rw [← H2.out]; omega)
      obtain ⟨b3, o3, rfl, hl3, hc3⟩ := hC.below hbr hBB (by rw [← H3.out]; omega)
      have c1 := hc1 k (by rw [← H1.out]; exact hlt)
      have c2 := hc2 k (by rw [← H2.out]; exact hlt)
      have c3' := hc3 k (by rw [← H3.out]; exact hlt)
      clear hc1 hc2 hc3 hcell
      have i1 : (k : Int) < (n : Int) := by omega
      have i2 : (0 : Int) ≤ (k : Int) := by omega
      obtain ⟨x, hx⟩ : ∃ x, x = nth l1 k ^^^ nth l2 k ^^^ nth l3 k := ⟨_, rfl⟩
      have hbn : Below w.heap.size w ((wr.alloc (.cells #[.int .u8 (u x)] 5)).drew) := (hbr.alloc hbr.size _).drew
      obtain ⟨A3, c3, w3, hr3, hown3, hg3, hb3, _, _⟩ := run_app (P := Try.prog) ((wr.alloc (.cells #[.int .u8 (u x)] 5)).drew) w.heap.size 23 23 5 i0 (.int .u8 0) 1 Try.underlying23 hi hz0 hz1 hz2 rfl _ k _ ((hown.alloc _).drew) (wr.heap.size + 1) (some ⟨wr.heap.size, 0, none⟩) 1 1 [.int .u8 (u x)] rfl (cell_new1 wr _ _) (by simp [Value.oneCell']) (by unfold maxLen; omega) (by omega) hbn.size
      rw [hx] at hr3 hown3 hg3 hb3 hbn
      rw [xor3_succ] at hown3
      have hbx := hbn.trans hb3
      clear hx
      have d1 : w3.cell? ⟨b1, o1 + k, none⟩ = some (.int .u8 (u (nth l1 k))) := (hb3.cell (p := ⟨b1, o1 + k, none⟩) (by show b1 < _; omega)).trans ((World.cell?_alloc_lt wr _ ⟨b1, o1 + k, none⟩ (by have := hbr.size; show b1 < _; omega)).trans c1)
      have d2 : w3.cell? ⟨b2, o2 + k, none⟩ = some (.int .u8 (u (nth l2 k))) := (hb3.cell (p := ⟨b2, o2 + k, none⟩) (by show b2 < _; omega)).trans ((World.cell?_alloc_lt wr _ ⟨b2, o2 + k, none⟩ (by have := hbr.size; show b2 < _; omega)).trans c2)
      have d3 : w3.cell? ⟨b3, o3 + k, none⟩ = some (.int .u8 (u (nth l3 k))) := (hb3.cell (p := ⟨b3, o3 + k, none⟩) (by show b3 < _; omega)).trans ((World.cell?_alloc_lt wr _ ⟨b3, o3 + k, none⟩ (by have := hbr.size; show b3 < _; omega)).trans c3')
      clear hown hb3 hbn hcl
      go_wp2_with fail
      go_region_held3 (fun w' => w'.cell? ⟨b1, o1 + k, none⟩ = some (.int .u8 (u (nth l1 k))) ∧ w'.cell? ⟨b2, o2 + k, none⟩ = some (.int .u8 (u (nth l2 k))) ∧ w'.cell? ⟨b3, o3 + k, none⟩ = some (.int .u8 (u (nth l3 k))))
        (first | go_keep | exact ⟨d1, d2, d3⟩)
        ((refine step_run_append (by rfl) _ _ _ _ (by rfl) (by rfl) (by rfl) hr3 ?_))
      clear hr3 d1 d2 d3 c1 c2 c3'
      go_wp2_with fail
      go_roundw
      case rel => exact ⟨k + 1, by omega, by go_num, hown3, hbx⟩
      case measure => simp [intOf]; omega
    · obtain rfl : k = n := by omega
      go_wp2_with fail
      go_ret
      exact ⟨A, c', rfl, hcl, owns_bytes hown, hbr⟩
end Go.Proofs.Ytiibhdhmkjpafaa
