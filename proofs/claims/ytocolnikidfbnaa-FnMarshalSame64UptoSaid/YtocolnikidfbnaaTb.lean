/- Whole tables loaded; the eight tables of 64 bits: what makeSlicingBy8Table makes. -/
import Derived.Test.YtocolnikidfbnaaChecked
import Derived.Test.YtocolnikidfbnaaMk
import Derived.Test.YtocolnikidfbnaaApp
import Derived.WalkKit
import Derived.LoopTactic
namespace Go.Proofs.Ytocolnikidfbnaa
open Go.RowKit
section
variable {P : Program}
theorem run_loadVar_cells (w : World) (g o : Nat) (ty : TypeId) (cs : Array Value) (d : TypeDesc) (hc : ∀ (j : Nat) v, cs[j]? = some v → w.cell? ⟨g, o + j, none⟩ = some v)
    (hu : P.underlying ty = some d) (hd : (match d with | .struct _ | .array _ _ => true | _ => false) = true) (hi : (P.info? ty).map (·.size) = some cs.size) :
    (loadVar ty ⟨g, o, none⟩).run P w = .ok (.agg cs) w := by
  have hl : (loadCells ⟨g, o, none⟩ cs.toList.length).run P w = .ok cs.toList.toArray w :=
    run_loadCells_list (P := P) w ⟨g, o, none⟩ cs.toList (fun j v hv => by
      have hadd : (⟨g, o, none⟩ : Addr).add j = ⟨g, o + j, none⟩ := by unfold Addr.add; split <;> simp_all
      rw [hadd]
      exact hc j v (by simpa using hv))
  cases hq : P.info? ty with
  | none => simp [hq] at hi
  | some i =>
    have hs : i.size = cs.size := by simpa [hq] using hi
    have hagg : (isAgg ty).run P w = .ok true w := by
      unfold isAgg
      rw [Sem.run_bind, run_underlying hu w]
      cases d <;> simp_all
    simp only [Array.length_toList, Array.toArray_toList] at hl
    simp [loadVar, Sem.run_bind, hagg, sizeOf, typeInfo, hq, hs, hl]
theorem wp_load_cells {o : Oper} {a : Act} {w : World} {K : Act → World → Prop} {Q : Exit → Act → World → Prop} (ty : TypeId) (x : Operand) (ho : o.op = .load ty x)
    (g off : Nat) (hx : a.eval x = .pointer (some ⟨g, off, none⟩)) (cs : Array Value) (d : TypeDesc) (hc : ∀ (j : Nat) v, cs[j]? = some v → w.cell? ⟨g, off + j, none⟩ = some v)
    (hu : P.underlying ty = some d) (hd : (match d with | .struct _ | .array _ _ => true | _ => false) = true) (hi : (P.info? ty).map (·.size) = some cs.size)
    (h : K (a.put o.dst (.agg cs)) w) : o.wp P a w K Q := by
  unfold Oper.wp execOp
  simp only [ho, hx, Instr.loadAt, Instr.sureAddr, Sem.run_bind, Sem.run_pure, Result.andThen_ok, run_loadVar_cells w g off ty cs d hc hu hd hi]
  exact h
theorem wpList_load_cells {ops : Array Oper} {rest : List Oper} {o : Oper} {a : Act} {w : World} {Q : Exit → Act → World → Prop} (hgd : o.guard = none) (ty : TypeId) (x : Operand) (ho : o.op = .load ty x)
    (g off : Nat) (hx : a.eval x = .pointer (some ⟨g, off, none⟩)) (cs : Array Value) (d : TypeDesc) (hc : ∀ (j : Nat) v, cs[j]? = some v → w.cell? ⟨g, off + j, none⟩ = some v)
    (hu : P.underlying ty = some d) (hd : (match d with | .struct _ | .array _ _ => true | _ => false) = true) (hi : (P.info? ty).map (·.size) = some cs.size)
    (h : wpList P ops Q rest (a.put o.dst (.agg cs)) w) : wpList P ops Q (o :: rest) a w :=
  wpList_plain hgd fun _ hK => wp_load_cells ty x ho g off hx cs d hc hu hd hi (hK _ _ h)
end
/-- a table by value -/
def tabArr (p : BitVec 64) : Array Value := ((List.range 256).map fun i => Value.int .u64 (u (Crc.T p 0 i))).toArray
theorem tabArr_size (p : BitVec 64) : (tabArr p).size = 256 := by
  unfold tabArr
  rw [List.size_toArray, List.length_map, List.length_range]
theorem tabArr_get (p : BitVec 64) (i : Nat) (h : i < 256) : (tabArr p)[i]? = some (.int .u64 (u (Crc.T p 0 i))) := by
  unfold tabArr
  rw [List.getElem?_toArray, List.getElem?_map, List.getElem?_range h, Option.map_some]
theorem tabArr_one (p : BitVec 64) : ∀ v ∈ tabArr p, v.oneCell' = true := by
  intro v hv
  unfold tabArr at hv
  rw [List.mem_toArray, List.mem_map] at hv
  obtain ⟨i, _, rfl⟩ := hv
  rfl
/-- a pointer to a table -/
def TabAt (w : World) (g : Nat) (p : BitVec 64) : Prop := ∀ i, i < 256 → w.cell? ⟨g, i, none⟩ = some (.int .u64 (u (Crc.T p 0 i)))
theorem TabAt.below {w w' : World} {g B : Nat} {p : BitVec 64} (h : TabAt w g p) (hb : Below B w w') (hg : g < B) : TabAt w' g p := fun i hi => (hb.cell (p := ⟨g, i, none⟩) hg).trans (h i hi)
theorem TabAt.arr {w : World} {g : Nat} {p : BitVec 64} (h : TabAt w g p) : ∀ (j : Nat) v, (tabArr p)[j]? = some v → w.cell? ⟨g, 0 + j, none⟩ = some v := by
  intro j v hv
  have hj : j < 256 := by
    rcases Nat.lt_or_ge j 256 with h1 | h1
    · exact h1
    · rw [Array.getElem?_eq_none (by rw [tabArr_size]; exact h1)] at hv; cases hv
  rw [tabArr_get p j hj] at hv
  rw [Nat.zero_add, h j hj]; exact hv
theorem TabAt.of {w : World} {g : Nat} {t : TypeId} {cs : Array Value} {p : BitVec 64} (hB : Blk w g t cs) (hT : Tab p 256 cs) : TabAt w g p := fun i hi => by rw [hB.cell]; exact hT i hi
/-- the eight tables, filled as far as number i, and of this as far as table j -/
def Tabs (p : BitVec 64) (i j : Nat) (cs : Array Value) : Prop := ∀ k n, k < 8 → n < 256 → (k = 0 ∨ n < i ∨ (n = i ∧ k < j)) → cs[k * 256 + n]? = some (.int .u64 (u (Crc.T p k n)))
theorem Tabs.put {p : BitVec 64} {i j : Nat} {cs : Array Value} (h : Tabs p i j cs) (hi : i < 256) (hj : j < 8) (hj1 : 1 ≤ j) (hs : cs.size = 2048) : Tabs p i (j + 1) (cs.setIfInBounds (j * 256 + i) (.int .u64 (u (Crc.T p j i)))) := by
  intro k n hk hn hc
  rw [Array.getElem?_setIfInBounds]
  by_cases e : j * 256 + i = k * 256 + n
  · have e1 : j = k := by omega
    have e2 : i = n := by omega
    subst e1; subst e2
    rw [if_pos rfl, if_pos (by omega)]
  · rw [if_neg e]
    exact h k n hk hn (by omega)
theorem Tabs.next {p : BitVec 64} {i : Nat} {cs : Array Value} (h : Tabs p i 8 cs) : Tabs p (i + 1) 1 cs := fun k n hk hn hc => h k n hk hn (by omega)
theorem T_next (p : BitVec 64) (k n : Nat) : Crc.T p 0 (u (Crc.T p k n &&& 255#64)).toNat ^^^ (Crc.T p k n >>> 8) = Crc.T p (k + 1) n := by
  rw [Crc.T_succ p k n (by decide), u_toNat, BitVec.toNat_and]; rfl
theorem low_lt (x : BitVec 64) : u (x &&& 255#64) < 256 := by
  unfold u
  rw [BitVec.toNat_and]
  have : x.toNat &&& (255#64).toNat ≤ (255#64).toNat := Nat.and_le_right
  have h2 : (255#64).toNat = 255 := rfl
  omega
theorem low_lt' (x : BitVec 64) : (u (x &&& 255#64)).toNat < 256 := by have := low_lt x; omega
theorem info_table : (Try.prog.info? 56).map (·.size) = some 256 := by kernel_rfl
theorem first_tabs (p : BitVec 64) : Tabs p 0 1 ((zeroCells 2048).toList.take 0 ++ (tabArr p).toList ++ (zeroCells 2048).toList.drop (0 + (tabArr p).toList.length)).toArray := by
  intro k n hk hn hc
  have : k = 0 := by omega
  subst this
  rw [List.getElem?_toArray, List.take_zero, List.nil_append, List.getElem?_append_left (by rw [Array.length_toList, tabArr_size]; omega), Array.getElem?_toList, Nat.zero_mul, Nat.zero_add]
  exact tabArr_get p n hn
theorem first_size (p : BitVec 64) : ((zeroCells 2048).toList.take 0 ++ (tabArr p).toList ++ (zeroCells 2048).toList.drop (0 + (tabArr p).toList.length)).toArray.size = 2048 := by
  rw [List.size_toArray, List.take_zero, List.nil_append, List.length_append, List.length_drop, Array.length_toList, Array.length_toList, tabArr_size, zeroCells_size]
/-- what makeSlicingBy8Table leaves -/
def TabsPost (p : BitVec 64) (w : World) (e : Ending) (w' : World) : Prop := ∃ g cs, e = .returned (.pointer (some ⟨g, 0, none⟩)) ∧ Blk w' g 70 cs ∧ cs.size = 2048 ∧ Tabs p 256 1 cs ∧ Below w.heap.size w w' ∧ w.heap.size ≤ g
set_option maxRecDepth 100000 in
set_option maxHeartbeats 800000 in
theorem slicing_any (p : BitVec 64) (g0 : Nat) (w : World) (hT0 : TabAt w g0 p) (hg0 : g0 < w.heap.size) : Calls Try.prog 30 #[.pointer (some ⟨g0, 0, none⟩)] w (TabsPost p w) := by
  have hz := zero_tables
  have hb0 : Below w.heap.size w (w.alloc (.cells (zeroCells 2048) 70)) := (Below.refl _ _).alloc (Nat.le_refl _) _
  have hT1 := hT0.below hb0 hg0
  obtain ⟨w1, hr1, hB1, hb1, _⟩ := (Blk.new w 70 (zeroCells 2048)).stores (P := Try.prog) 0 (tabArr p).toList (by rw [Array.length_toList, tabArr_size, zeroCells_size]; omega) (fun v hv => tabArr_one p v (by simpa using hv))
  have hb2 : Below w.heap.size w w1 := hb0.trans hb1
  have hts : (tabArr p).size = 256 := tabArr_size p
  go_enter Try.func30, Try.ntmps30
  go_wp2_with (refine wpList_load_cells rfl 56 _ rfl g0 0 rfl (tabArr p) _ hT1.arr Try.underlying56 rfl (by rw [tabArr_size]; exact info_table) ?_)
  clear hz hr1 hT1 hb0 hb1 hts
  obtain ⟨g, Hg⟩ : ∃ g, Hid (g = w.heap.size) := ⟨_, rfl⟩
  have hgb : w.heap.size ≤ g := by rw [Hg.out]; exact Nat.le_refl _
  rw [← Hg.out] at hB1 ⊢
  have HT0 : Hid (TabAt w g0 p) := hT0
  go_loopw [4, 5, 6] (fun i _ _ wr => ∃ k : Nat, ∃ cs', k ≤ 256 ∧ i = .int .i64 k ∧ Blk wr g 70 cs' ∧ Hid (cs'.size = 2048) ∧ Tabs p k 1 cs' ∧ Below w.heap.size w wr) (fun i _ _ _ => 256 - (intOf i).toNat)
  case atStart => exact ⟨0, _, by omega, rfl, hB1, first_size p, first_tabs p, hb2⟩
  case round =>
    clear hB1 hb2
    obtain ⟨k, cs', hk, rfl, hB', Hs, hT, hbel⟩ := hrel
    by_cases hlt : k < 256
    · have hd : decide ((k : Int) < 256) = true := decide_eq_true (by omega)
      have hc0 : wr.cell? ⟨g0, k, none⟩ = some (.int .u64 (u (Crc.T p 0 k))) := (HT0.out.below hbel hg0) k hlt
      go_wp2_with fail
      obtain ⟨wo, rfl⟩ : ∃ wo : World, wo = wr := ⟨_, rfl⟩
      clear hc0
      go_loopw [5, 6] (fun r i wr => ∃ j : Nat, ∃ cs', 1 ≤ j ∧ j ≤ 8 ∧ i = .int .i64 j ∧ r = .int .u64 (u (Crc.T p (j - 1) k)) ∧ Blk wr g 70 cs' ∧ Hid (cs'.size = 2048) ∧ Tabs p k j cs' ∧ Below w.heap.size w wr) (fun _ i _ => 8 - (intOf i).toNat)
      case atStart => exact ⟨1, cs', by omega, by omega, rfl, rfl, hB', Hs, hT, hbel⟩
      case round =>
        clear hB' hT hbel Hs
        obtain ⟨j, cs', hj1, hj, rfl, rfl, hB', Hs, hT, hbel⟩ := hrel
        by_cases hlt2 : j < 8
        · have hd2 : decide ((j : Int) < 8) = true := decide_eq_true (by omega)
          have hlo := u_nonneg (Crc.T p (j - 1) k &&& 255#64)
          have hhi := low_lt (Crc.T p (j - 1) k)
          have hci : wr.cell? ⟨g0, (u (Crc.T p (j - 1) k &&& 255#64)).toNat, none⟩ = some (.int .u64 (u (Crc.T p 0 (u (Crc.T p (j - 1) k &&& 255#64)).toNat))) := (HT0.out.below hbel hg0) _ (low_lt' (Crc.T p (j - 1) k))
          obtain ⟨v, hv⟩ : ∃ v, wr.cell? ⟨g, j * 256 + k, none⟩ = some v := by rw [hB'.cell]; exact ⟨_, Array.getElem?_eq_getElem (by rw [Hs.out]; omega)⟩
          have hf := hB'.free (j * 256 + k)
          go_wp2_with fail
          go_roundw
          case rel =>
            have e1 := T_next p (j - 1) k
            rw [show j - 1 + 1 = j by omega] at e1
            rw [e1]
            exact ⟨j + 1, _, by omega, by omega, by go_num, rfl, hB'.put (j * 256 + k) _, by show _ = _; rw [Array.size_setIfInBounds]; exact Hs.out, hT.put hlt hlt2 hj1 Hs.out, hbel.setCell (p := ⟨g, j * 256 + k, none⟩) hgb _⟩
          case measure => simp [intOf]; omega
        · obtain rfl : j = 8 := by omega
          go_wp2_with fail
          go_roundw
          case rel => exact ⟨k + 1, cs', by omega, by go_num, hB', Hs, hT.next, hbel⟩
          case measure => simp [intOf]; omega
    · obtain rfl : k = 256 := by omega
      go_wp2_with fail
      go_ret
      exact ⟨g, cs', rfl, hB', Hs.out, hT, hbel, hgb⟩
end Go.Proofs.Ytocolnikidfbnaa
