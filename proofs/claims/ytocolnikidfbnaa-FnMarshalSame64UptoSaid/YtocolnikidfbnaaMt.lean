/- The tables of the polynomials that have names; MakeTable; the thin package's tables. -/
import Derived.Test.YtocolnikidfbnaaChecked
import Derived.Test.YtocolnikidfbnaaTb
import Derived.WalkKit
import Derived.LoopTactic
namespace Go.Proofs.Ytocolnikidfbnaa
open Go.RowKit
def iso : BitVec 64 := 15564440312192434176#64
def ecma : BitVec 64 := 14514072000185962306#64
theorem iso_u : (15564440312192434176 : Int) = u iso := rfl
theorem ecma_u : (14514072000185962306 : Int) = u ecma := rfl
theorem tabs_tab {p : BitVec 64} {w : World} {g : Nat} {t : TypeId} {cs : Array Value} (hB : Blk w g t cs) (hT : Tabs p 256 1 cs) : TabAt w g p := fun i hi => by
  rw [hB.cell]; have := hT 0 i (by omega) hi (Or.inl rfl); simpa using this
theorem iso_any (w : World) : Calls Try.prog 22 #[] w (TabsPost iso w) := by
  go_enter Try.func22, Try.ntmps22
  go_wp2_with fail
  rw [iso_u]
  refine (make_any iso w).mono ?_
  rintro e w1 ⟨g, cs, rfl, hB, hs, hT, hb, hg⟩
  clear hs
  go_wp2_with fail
  refine (slicing_any iso g w1 (TabAt.of hB hT) hB.lt).mono ?_
  rintro e w2 ⟨g2, cs2, rfl, hB2, hs2, hT2, hb2, hg2⟩
  have Hs2 : Hid (cs2.size = 2048) := hs2
  clear hs2
  go_wp2_with fail
  go_ret
  exact ⟨g2, cs2, rfl, hB2, Hs2.out, hT2, hb.trans (hb2.mono hb.size), Nat.le_trans hb.size hg2⟩
theorem ecma_any (w : World) : Calls Try.prog 23 #[] w (TabsPost ecma w) := by
  go_enter Try.func23, Try.ntmps23
  go_wp2_with fail
  rw [ecma_u]
  refine (make_any ecma w).mono ?_
  rintro e w1 ⟨g, cs, rfl, hB, hs, hT, hb, hg⟩
  clear hs
  go_wp2_with fail
  refine (slicing_any ecma g w1 (TabAt.of hB hT) hB.lt).mono ?_
  rintro e w2 ⟨g2, cs2, rfl, hB2, hs2, hT2, hb2, hg2⟩
  have Hs2 : Hid (cs2.size = 2048) := hs2
  clear hs2
  go_wp2_with fail
  go_ret
  exact ⟨g2, cs2, rfl, hB2, Hs2.out, hT2, hb.trans (hb2.mono hb.size), Nat.le_trans hb.size hg2⟩
/-- what MakeTable leaves: a pointer to a table, new -/
def MtPost (p : BitVec 64) (w : World) (e : Ending) (w' : World) : Prop := ∃ g, e = .returned (.pointer (some ⟨g, 0, none⟩)) ∧ TabAt w' g p ∧ g < w'.heap.size ∧ w.heap.size ≤ g ∧ Below w.heap.size w w'
set_option maxRecDepth 100000 in
theorem mt_any (p : BitVec 64) (w : World) : Calls Try.prog 16 #[.int .u64 (u p)] w (MtPost p w) := by
  by_cases h1 : p = iso
  · subst h1
    have t1 : (u iso == (15564440312192434176 : Int)) = true := rfl
    go_enter Try.func16, Try.ntmps16
    go_wp2_with fail
    refine (iso_any _).mono ?_
    rintro e w1 ⟨g, cs, rfl, hB, hs, hT, hb, hg⟩
    clear hs
    go_wp2_with fail
    go_ret
    exact ⟨g, rfl, tabs_tab hB hT, hB.lt, hg, hb⟩
  have t1 : (u p == (15564440312192434176 : Int)) = false := by rw [iso_u, u_beq]; simpa using h1
  by_cases h2 : p = ecma
  · subst h2
    have t2 : (u ecma == (14514072000185962306 : Int)) = true := rfl
    clear h1
    go_enter Try.func16, Try.ntmps16
    go_wp2_with fail
    refine (ecma_any _).mono ?_
    rintro e w1 ⟨g, cs, rfl, hB, hs, hT, hb, hg⟩
    clear hs
    go_wp2_with fail
    go_ret
    exact ⟨g, rfl, tabs_tab hB hT, hB.lt, hg, hb⟩
  have t2 : (u p == (14514072000185962306 : Int)) = false := by rw [ecma_u, u_beq]; simpa using h2
  clear h1 h2
  go_enter Try.func16, Try.ntmps16
  go_wp2_with fail
  refine (make_any p _).mono ?_
  rintro e w1 ⟨g, cs, rfl, hB, hs, hT, hb, hg⟩
  clear hs
  go_wp2_with fail
  go_ret
  exact ⟨g, rfl, TabAt.of hB hT, hB.lt, hg, hb⟩
end Go.Proofs.Ytocolnikidfbnaa
