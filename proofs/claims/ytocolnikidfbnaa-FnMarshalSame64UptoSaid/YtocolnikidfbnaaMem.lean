/- Words on memory for these walks: a slice of bytes that reads as a list; a block known whole. -/
import Derived.Test.YtocolnikidfbnaaBase
import Derived.Below
import Derived.Deep.Draws
import Derived.Laws.Rows
import Derived.Laws.OwnMore
namespace Go.Proofs.Ytocolnikidfbnaa
open Go.RowKit
/-- byte j of a list, closed to the walk -/
def nth (l : List (BitVec 8)) (j : Nat) : BitVec 8 := l.getD j 0#8
theorem nth_drop (l : List (BitVec 8)) (k j : Nat) : nth (l.drop k) j = nth l (k + j) := by simp [nth]
theorem take_succ_nth (l : List (BitVec 8)) (k : Nat) (h : k < l.length) : l.take (k + 1) = l.take k ++ [nth l k] := by
  rw [List.take_succ_eq_append_getElem h]; simp [nth, h]
/-- a slice's address leads, below block B, to cells that hold the bytes l -/
def Bytes (w : World) (B : Nat) (A : Option Addr) (l : List (BitVec 8)) : Prop :=
  0 < l.length → ∃ b off, A = some ⟨b, off, none⟩ ∧ b < B ∧ ∀ j, j < l.length → w.cell? ⟨b, off + j, none⟩ = some (.int .u8 (u (nth l j)))
theorem Bytes.nil (w : World) (B : Nat) (A : Option Addr) : Bytes w B A [] := fun h => absurd h (by simp)
theorem Bytes.below {w w' : World} {B C : Nat} {A : Option Addr} {l : List (BitVec 8)} (h : Bytes w B A l) (hb : Below C w w') (hBC : B ≤ C) : Bytes w' B A l := by
  intro hl
  obtain ⟨b, off, rfl, hlt, hc⟩ := h hl
  exact ⟨b, off, rfl, hlt, fun j hj => (hb.cell (p := ⟨b, off + j, none⟩) (by show b < C; omega)).trans (hc j hj)⟩
theorem Bytes.more {w : World} {B C : Nat} {A : Option Addr} {l : List (BitVec 8)} (h : Bytes w B A l) (hBC : B ≤ C) : Bytes w C A l := by
  intro hl
  obtain ⟨b, off, rfl, hlt, hc⟩ := h hl
  exact ⟨b, off, rfl, by omega, hc⟩
theorem Bytes.tail {w : World} {B b off : Nat} {l : List (BitVec 8)} (k : Nat) (h : Bytes w B (some ⟨b, off, none⟩) l) : Bytes w B (some ⟨b, off + k, none⟩) (l.drop k) := by
  intro hl
  simp only [List.length_drop] at hl
  obtain ⟨b', off', he, hlt, hc⟩ := h (by omega)
  injection he with he; injection he with h1 h2 _; subst h1; subst h2
  refine ⟨b, off + k, rfl, hlt, fun j hj => ?_⟩
  simp only [List.length_drop] at hj
  have := hc (k + j) (by omega)
  rw [nth_drop, Nat.add_assoc]; exact this
theorem below_drewN (B : Nat) (w : World) (k : Nat) : Below B w (w.drewN k) := ⟨rfl, rfl, rfl, Nat.le_refl _, fun _ _ => rfl⟩
/-- block g is just the cells cs of type t, none of them frozen -/
def Blk (w : World) (g : Nat) (t : TypeId) (cs : Array Value) : Prop := w.heap[g]? = some (.cells cs t (0, 0))
theorem Blk.lt {w : World} {g : Nat} {t : TypeId} {cs : Array Value} (h : Blk w g t cs) : g < w.heap.size := by
  unfold Blk at h
  rcases Nat.lt_or_ge g w.heap.size with h1 | h1
  · exact h1
  · rw [Array.getElem?_eq_none h1] at h; cases h
theorem Blk.cell {w : World} {g : Nat} {t : TypeId} {cs : Array Value} (h : Blk w g t cs) (i : Nat) : w.cell? ⟨g, i, none⟩ = cs[i]? := cell_of_row w g i cs t (0, 0) h
theorem Blk.free {w : World} {g : Nat} {t : TypeId} {cs : Array Value} (h : Blk w g t cs) (i : Nat) : w.frozen? ⟨g, i, none⟩ = false := frozen_of_row w g i cs t h
theorem Blk.new (w : World) (t : TypeId) (cs : Array Value) : Blk (w.alloc (.cells cs t)) w.heap.size t cs := heap_alloc_new w _
theorem Blk.alloc {w : World} {g : Nat} {t : TypeId} {cs : Array Value} (h : Blk w g t cs) (o : Obj) : Blk (w.alloc o) g t cs := (Below.heap_alloc w o g h.lt).trans h
theorem Blk.put {w : World} {g : Nat} {t : TypeId} {cs : Array Value} (h : Blk w g t cs) (i : Nat) (v : Value) : Blk (w.setCell ⟨g, i, none⟩ v) g t (cs.setIfInBounds i v) := heap_setCell_same w g i cs t v h
theorem Blk.below {w w' : World} {g B : Nat} {t : TypeId} {cs : Array Value} (h : Blk w g t cs) (hb : Below B w w') (hg : g < B) : Blk w' g t cs := (hb.block g hg).trans h
end Go.Proofs.Ytocolnikidfbnaa
