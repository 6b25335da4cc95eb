import Derived.Test.YtiibhdhmkjpafaaChecked
import Derived.Test.YtiibhdhmkjpafaaUi
import Derived.Test.YtiibhdhmkjpafaaOne
import Derived.Test.YtiibhdhmkjpafaaLoww
import Derived.WalkKit
import Derived.LoopTactic
import Derived.Outline
import Derived.Deep.RegionLaw
namespace Go.Proofs.Ytiibhdhmkjpafaa
open Go.RowKit
/-- every block of W is in W' as it was -/
def Ext (W W' : World) : Prop := Below W.heap.size W W'
theorem Ext.refl (W : World) : Ext W W := Below.refl _ _
theorem Ext.trans {A B C : World} (h : Ext A B) (k : Ext B C) : Ext A C := Below.trans h (Below.mono k (Below.size h))
theorem Ext.alloc {A B : World} (h : Ext A B) (o : Obj) : Ext A (B.alloc o) := Below.alloc h (Below.size h) o
theorem Ext.drew {A B : World} (h : Ext A B) : Ext A B.drew := Below.drew h
theorem Ext.size {A B : World} (h : Ext A B) : A.heap.size ≤ B.heap.size := Below.size h
theorem Blk.ext {w w' : World} {g : Nat} {t : TypeId} {cs : Array Value} (h : Blk w g t cs) (k : Ext w w') : Blk w' g t cs := h.below k h.lt
/-- append([]byte{}, a...) in whatever world: nothing that was there turns -/
theorem copy_ext (W : World) (g : Nat) (hg : Blk W g 5 #[]) (base : Nat) (hbg : base ≤ g) (A : Option Addr) (l : List (BitVec 8)) (n c B : Nat) (hn : n = l.length) (hA : Bytes W B A l) (hm : n ≤ 140737488355328) :
    ∃ gr c' W', (Builtin.append_ #[23, 23] 23 #[.slice (some ⟨g, 0, none⟩) 0 0, .slice A n c]).run Try.prog W = .ok (.slice (some ⟨gr, 0, none⟩) n c') W' ∧ Ext W W' ∧
      W'.ownsRow base 5 1 (.slice (some ⟨gr, 0, none⟩) n c') n (l.map byteV) ∧ (gr = g ∨ gr = W.heap.size) := by
  obtain ⟨i0, hi, hz0, hz1, hz2⟩ := info_parts info_byte
  have hg' : W.heap[g]? = some (.cells #[] 5 (0, 0)) := hg
  have hown0 : W.ownsRow base 5 1 (.slice (some ⟨g, 0, none⟩) 0 0) 0 [] := ⟨rfl, .inr ⟨g, 0, #[], rfl, hbg, hg', Nat.le_refl _, by unfold maxLen; omega, rfl, rfl⟩⟩
  by_cases h0 : n = 0
  · have hl : l = [] := List.eq_nil_of_length_eq_zero (by omega)
    subst hl
    subst h0
    refine ⟨g, 0, W, ?_, Ext.refl _, hown0, Or.inl rfl⟩
    cases A with
    | none => exact run_append_nil_src W base _ _ 5 i0 Try.underlying23 hi _ 0 [] hown0 none c rfl
    | some ad =>
      have hst : (storeCells ⟨g, 0, none⟩ []).run Try.prog W = .ok () W := rfl
      simp [Builtin.append_, run_underlying Try.underlying23, sizeOf, typeInfo, hi, Builtin.lenOf, Builtin.firstCells, loadCells, loadCellsFrom, storeCells]
  · obtain ⟨b, off, rfl, _, hc⟩ := hA.cells (by simp; omega)
    have hr := run_append_grow (P := Try.prog) W 23 23 5 i0 (.int .u8 0) Try.underlying23 hi hz0 ⟨g, 0, none⟩ 0 0 [] (by simp) (fun j v hv => by simp at hv) ⟨b, off, none⟩ n c (l.map byteV) (by rw [hz1, List.length_map]; omega)
      (fun j v hv => by
        have : (⟨b, off, none⟩ : Addr).add j = ⟨b, off + j, none⟩ := by unfold Addr.add; split <;> simp_all
        rw [this]; exact hc j v hv) (by omega) (by omega) (growslice_fits (by omega) (by rw [hz2]; omega))
    simp only [Nat.zero_add, Array.empty_append] at hr
    refine ⟨W.heap.size, _, _, hr, (Ext.refl W).drew.alloc _, ?_, Or.inr rfl⟩
    have hge := grownCap_ge W n 0 5
    have hlt := hg.lt
    refine ⟨by rw [List.length_map]; omega, .inr ⟨W.heap.size, _, _, rfl, by omega, heap_alloc_new W.drew _, hge, grownCap_le_maxLen W n 0 5 (by unfold maxLen; omega), ?_, ?_⟩⟩
    · simp [size_zeroCells, Value.cells]; omega
    · simp only [Array.toList_append, Nat.mul_one]
      rw [show n = (l.map byteV).length by rw [List.length_map]; exact hn]
      exact List.take_left
theorem Blk.drew' {w : World} {g : Nat} {t : TypeId} {cs : Array Value} (h : Blk w g t cs) : Blk w.drew g t cs := h
theorem owns_lt {w : World} {base : Nat} {e : TypeId} {n m gr c : Nat} {xs : List Value} (h : w.ownsRow base e 1 (.slice (some ⟨gr, 0, none⟩) n c) m xs) : gr < w.heap.size := by
  obtain ⟨_, ⟨⟨h1, _⟩, _⟩ | ⟨b, cap, cs, h1, _, h2, _⟩⟩ := h
  cases h1
  exact Nat.lt_of_not_ge (fun hge => by rw [Array.getElem?_eq_none hge] at h2; cases h2)
theorem owns_ext {w w' : World} {base : Nat} {e : TypeId} {v : Value} {n : Nat} {xs : List Value} (h : w.ownsRow base e 1 v n xs) (k : Ext w w') : w'.ownsRow base e 1 v n xs := owns_below h k (Nat.le_refl _)
theorem size_alloc (w : World) (o : Obj) : (w.alloc o).heap.size = w.heap.size + 1 := Array.size_push _
theorem size_drew (w : World) : w.drew.heap.size = w.heap.size := rfl
theorem Blk.new' (w : World) (t : TypeId) (cs : Array Value) (g : Nat) (hg : g = w.heap.size) : Blk (w.alloc (.cells cs t)) g t cs := by rw [hg]; exact Blk.new w t cs
theorem step_copy1 {ops : Array Oper} {o : Oper} {a : Act} {W : World} {K : Act → World → Prop} {Q : Exit → Act → World → Prop} {E : Prop} (hgd : o.guard = none) (s x : Operand)
    (ho : o.op = .call { callee := .builtin .append, args := #[s, x], argTypes := #[23, 23] }) (hty : o.type = 23) (g : Nat) (hs : a.eval s = .slice (some ⟨g, 0, none⟩) 0 0) (A : Option Addr) (n c : Nat) (hx : a.eval x = .slice A n c)
    (w1 : World) (l : List (BitVec 8)) (B : Nat) (hA : Bytes w1 B A l) (hB : B ≤ w1.heap.size) (hn : n = l.length) (hm : n ≤ 140737488355328) (hE : Ext w1 W) (hg : Blk W g 5 #[]) (hbg : w1.heap.size ≤ g)
    (h : ∀ gr c' W', Ext W W' → W'.ownsRow w1.heap.size 5 1 (.slice (some ⟨gr, 0, none⟩) n c') n (l.map byteV) → (gr = g ∨ gr = W.heap.size) → W.heap.size ≤ W'.heap.size → g < W.heap.size → gr < W'.heap.size → K (a.put o.dst (.slice (some ⟨gr, 0, none⟩) n c')) W') :
    if Region.wanted o (yielded ops a.tmps) = true then Oper.wp Try.prog o a W K Q else E := by
  obtain ⟨gr, c', W', hr, hx', ho', hgr⟩ := copy_ext W g hg w1.heap.size hbg A l n c B hn (hA.below hE hB) hm
  exact step_run_append hgd s x _ _ ho hs hx (by rw [hty]; exact hr) (h gr c' W' hx' ho' hgr hx'.size hg.lt (owns_lt ho'))
theorem step_app2 {ops : Array Oper} {o : Oper} {a : Act} {W : World} {K : Act → World → Prop} {Q : Exit → Act → World → Prop} {E : Prop} (hgd : o.guard = none) (s x : Operand)
    (ho : o.op = .call { callee := .builtin .append, args := #[s, x], argTypes := #[23, 23] }) (hty : o.type = 23) (gr n c : Nat) (hs : a.eval s = .slice (some ⟨gr, 0, none⟩) n c) (A : Option Addr) (m cl : Nat) (hx : a.eval x = .slice A m cl)
    (w1 : World) (l low : List (BitVec 8)) (hlow : m = low.length) (hm : n + m ≤ 140737488355328) (hE : Ext w1 W) (Wr : World) (hown0 : Wr.ownsRow w1.heap.size 5 1 (.slice (some ⟨gr, 0, none⟩) n c) n (l.map byteV)) (hEr : Ext Wr W) (wl : World) (bl : Nat) (hol : wl.ownsRow bl 5 1 (.slice A m cl) m (low.map byteV)) (hEl : Ext wl W)
    (h : ∀ A' c' W', Bytes W' W'.heap.size A' (l ++ low) → n + m ≤ c' → Ext w1 W' → W.heap.size ≤ W'.heap.size → (∀ g cs, g ≠ gr → Blk W g 5 cs → Blk W' g 5 cs) → K (a.put o.dst (.slice A' (n + m) c')) W') :
    if Region.wanted o (yielded ops a.tmps) = true then Oper.wp Try.prog o a W K Q else E := by
  obtain ⟨i0, hi, hz0, hz1, hz2⟩ := info_parts info_byte
  have hown := owns_ext hown0 hEr
  have hl : Bytes W W.heap.size A low := Bytes.more (Bytes.below (owns_bytes hol) hEl (Nat.le_refl _)) hEl.size
  obtain ⟨A1, c1, W1, hr1, hown1, hg1, hb1, hc1, hcell⟩ := run_app (P := Try.prog) W w1.heap.size 23 23 5 i0 (.int .u8 0) 1 Try.underlying23 hi hz0 hz1 hz2 rfl _ n _ hown W.heap.size A m cl (low.map byteV) (by rw [List.length_map]; exact hlow.symm) hl.cells (bytes_one low) (by unfold maxLen; omega) (by omega) hE.size
  rw [← List.map_append] at hcell
  refine step_run_append hgd s x _ _ ho hs hx (by rw [hty]; exact hr1) (h A1 c1 W1 hcell.bytes hc1 (Below.trans hE hb1) hg1.size (fun g cs hne hB => ?_))
  exact (hg1.block g hB.lt (by simp [Value.ownBlock]; exact hne)).trans hB
theorem make8 (w : World) : (Instr.makeSlice 23 (.int .i64 8) (.int .i64 8)).run Try.prog w = .ok (.slice (some ⟨w.heap.size, 0, none⟩) 8 8) (w.alloc (.cells #[.int .u8 0, .int .u8 0, .int .u8 0, .int .u8 0, .int .u8 0, .int .u8 0, .int .u8 0, .int .u8 0] 5)) := by kernel_rfl
theorem bytes_blk {w : World} {g : Nat} {t : TypeId} (l : List (BitVec 8)) (h : Blk w g t (l.map byteV).toArray) : Bytes w w.heap.size (some ⟨g, 0, none⟩) l := by
  intro _
  refine ⟨g, 0, rfl, h.lt, fun j hj => ?_⟩
  rw [Nat.zero_add, h.cell j, List.getElem?_toArray]
  exact nth_some hj
/-- the contract as the region meets it -/
theorem sliced_z (p y : BitVec 64) (A : Option Addr) (l : List (BitVec 8)) (n cap : Nat) (w w0 : World) (hn : n = l.length) (hm : n ≤ 140737488355328) (hcap : n ≤ cap) (hA : Bytes w0 w0.heap.size A l) (hE : Ext w0 w) (hy : Hid (y = Crc.sum p 0#64 l)) :
    Calls Try.prog 9 #[.int .u64 0, .int .u64 (u p), .slice A n cap] w fun e w' => e = .returned (.int .u64 (u y)) ∧ Ext w w' := by
  rw [hy.out]
  exact update64_any p 0#64 A l n cap _ w hn hm hcap (hA.below hE (Nat.le_refl _)) hE.size
theorem sliced_o (p o : BitVec 64) (ho : Hid (o = 18446744073709551615#64)) (g : Nat) (w : World) (hB : Blk w g 5 #[.int .u8 0]) :
    Calls Try.prog 9 #[.int .u64 18446744073709551615, .int .u64 (u p), .slice (some ⟨g, 0, none⟩) 1 1] w fun e w' => e = .returned (.int .u64 (u o)) ∧ Ext w w' := by
  rw [ho.out]
  have h := update64_any p 18446744073709551615#64 (some ⟨g, 0, none⟩) [0#8] 1 1 _ w rfl (by omega) (by omega) (bytes_blk [0#8] hB) (Nat.le_refl _)
  rw [show Crc.sum p 18446744073709551615#64 [0#8] = 18446744073709551615#64 from sum_zero_byte p] at h
  exact h
theorem sliced_4 (p z : BitVec 64) (hz : Hid (z = Crc.sum p 0#64 [0#8, 0#8, 0#8, 0#8, 0#8, 0#8, 0#8, 0#8])) (g : Nat) (w : World) (hB : Blk w g 5 #[.int .u8 0, .int .u8 0, .int .u8 0, .int .u8 0, .int .u8 0, .int .u8 0, .int .u8 0, .int .u8 0]) :
    Calls Try.prog 9 #[.int .u64 0, .int .u64 (u p), .slice (some ⟨g, 0, none⟩) 8 8] w fun e w' => e = .returned (.int .u64 (u z)) ∧ Ext w w' := by
  rw [hz.out]
  exact update64_any p 0#64 (some ⟨g, 0, none⟩) [0#8, 0#8, 0#8, 0#8, 0#8, 0#8, 0#8, 0#8] 8 8 _ w rfl (by omega) (by omega) (bytes_blk [0#8, 0#8, 0#8, 0#8, 0#8, 0#8, 0#8, 0#8] hB) (Nat.le_refl _)
theorem own_law (p : BitVec 64) (l : List (BitVec 8)) : Crc.sum p 0#64 (l ++ low8 (Crc.sum p 0#64 l)) = Crc.sum p 0#64 [0#8, 0#8, 0#8, 0#8, 0#8, 0#8, 0#8, 0#8] := by
  unfold Crc.sum
  rw [Crc.crcReg_append]
  congr 1
  have h1 := Crc.own p (Crc.crcReg p (~~~ 0#64) l) (low8 (~~~ Crc.crcReg p (~~~ 0#64) l)) (by simp [low8, low4]) (le_low8 _)
  have h2 : Crc.crcReg p (~~~ 0#64) [0#8, 0#8, 0#8, 0#8, 0#8, 0#8, 0#8, 0#8] = Crc.steps p 64 (BitVec.allOnes 64) := by
    rw [Crc.crcReg_le p _ _ (by simp)]
    have : Crc.le 64 [0#8, 0#8, 0#8, 0#8, 0#8, 0#8, 0#8, 0#8] = 0#64 := by decide
    rw [this, BitVec.xor_zero, show ~~~ (0#64) = BitVec.allOnes 64 by decide]
    rfl
  rw [h1, h2]
set_option maxRecDepth 100000 in
set_option maxHeartbeats 2000000 in
theorem law_FnOwn64 (p : BitVec 64) (a : Option Addr) (n cap : Nat) (l : List (BitVec 8)) (hn : n = l.length) {w : World} (hA : Bytes w w.heap.size a l) (hcap : n ≤ cap) :
    Calls Try.prog 6 #[.int .u64 (u p), .slice a n cap] w fun e w' => e = .returned (.bool true) ∧ Below w.heap.size w w' := by
  have Hn : Hid (n = l.length) := hn
  clear hn
  by_cases hbig : 2147483647 < n
  · go_enter Try.func6, Try.ntmps6
    go_wp2_with fail
    go_ret
    exact ⟨rfl, Below.refl _ _⟩
  go_enter Try.func6, Try.ntmps6
  go_wp2_with fail
  rw [zero_u]
  refine (update64_any p 0#64 a l n cap _ w Hn.out (by omega) hcap hA (Nat.le_refl _)).mono ?_
  rintro e w1 ⟨rfl, hb1⟩
  have hA1 := hA.below hb1 (Nat.le_refl _)
  have hB1 := hb1.size
  obtain ⟨s, Hs⟩ : ∃ s, Hid (s = Crc.sum p 0#64 l) := ⟨_, rfl⟩
  rw [← Hs.out]
  obtain ⟨z, Hz⟩ : ∃ z, Hid (z = Crc.sum p 0#64 [0#8, 0#8, 0#8, 0#8, 0#8, 0#8, 0#8, 0#8]) := ⟨_, rfl⟩
  obtain ⟨y, Hy⟩ : ∃ y, Hid (y = Crc.sum p 0#64 (l ++ low8 s)) := ⟨_, rfl⟩
  obtain ⟨o, Ho⟩ : ∃ o : BitVec 64, Hid (o = 18446744073709551615#64) := ⟨_, rfl⟩
  have ho : (u o == 18446744073709551615) = true := by rw [Ho.out]; decide
  have hyz : y = z := by rw [Hy.out, Hz.out, Hs.out, own_law]
  subst hyz
  have Hl4 : Hid (n + 8 = (l ++ low8 s).length) := by show n + 8 = _; rw [List.length_append, ← Hn.out]; rfl
  have hmk := make8
  have hB0 : Hid (Below w.heap.size w w1) := hb1
  clear hA hb1
  go_wp2_with fail
  go_region_law (first
    | (refine step_copy1 (by rfl) (.tmp 13) (.tmp 14) (by rfl) (by rfl) _ (by rfl) _ _ _ (by rfl) w1 l _ hA1 hB1 Hn.out ?_ ?_ ?_ ?_ ?_; omega; (repeat (first | with_reducible exact Ext.refl _ | with_reducible assumption | with_reducible refine Ext.drew ?_ | with_reducible refine Ext.alloc ?_ _ | with_reducible refine Ext.trans ?_ (by with_reducible assumption))); (repeat (first | with_reducible exact Blk.new _ _ _ | with_reducible exact Blk.new' _ _ _ _ (by simp only [size_alloc]) | with_reducible assumption | with_reducible refine Blk.drew' ?_ | with_reducible refine Blk.alloc ?_ _ | with_reducible refine Blk.ext ?_ (by with_reducible assumption))); (focus (first | exact Nat.le_refl _ | omega | (rw [size_alloc]; omega) | (rw [size_drew, size_alloc]; omega) | (rw [size_alloc, size_drew]; omega))); intro gr cr Wr hxr hor hgr hsr hgl hgw; (try simp only [size_alloc, size_drew] at hgr hsr hgl))
    | (refine step_app2 (by rfl) (.tmp 15) (.tmp 17) (by rfl) (by rfl) gr n cr (by rfl) Al 8 cl (by rfl) w1 l (low8 s) rfl ?_ ?_ Wr hor ?_ wl _ hol ?_ ?_; omega; (repeat (first | with_reducible exact Ext.refl _ | with_reducible assumption | with_reducible refine Ext.drew ?_ | with_reducible refine Ext.alloc ?_ _ | with_reducible refine Ext.trans ?_ (by with_reducible assumption))); (repeat (first | with_reducible exact Ext.refl _ | with_reducible assumption | with_reducible refine Ext.drew ?_ | with_reducible refine Ext.alloc ?_ _ | with_reducible refine Ext.trans ?_ (by with_reducible assumption))); (repeat (first | with_reducible exact Ext.refl _ | with_reducible assumption | with_reducible refine Ext.drew ?_ | with_reducible refine Ext.alloc ?_ _ | with_reducible refine Ext.trans ?_ (by with_reducible assumption))); intro A4 c4 W4 hA4 hc4 hx4 hs4 hkeep)
    | (go_simp; go_at_call 11; refine (low64_any s _).mono ?_; rintro e wl ⟨Al, cl, rfl, hcl, hol, hbl⟩; have hxl : Ext _ wl := hbl; have hsl := hbl.size; clear hbl; (try simp only [size_alloc] at hsl))
    | (go_simp; go_at_call 9; (with_reducible refine (sliced_z p y A4 (l ++ low8 s) (n + 8) c4 _ W4 Hl4.out ?_ hc4 hA4 ?_ Hy).mono ?_); omega; (repeat (first | with_reducible exact Ext.refl _ | with_reducible assumption | with_reducible refine Ext.drew ?_ | with_reducible refine Ext.alloc ?_ _ | with_reducible refine Ext.trans ?_ (by with_reducible assumption))); rintro e w5 ⟨rfl, hx5⟩)
    | (go_simp; go_at_call 9; (with_reducible refine (sliced_4 p y Hz _ _ ?_).mono ?_); (focus (repeat (first | with_reducible exact Blk.new _ _ _ | with_reducible exact Blk.new' _ _ _ _ (by simp only [size_alloc]) | with_reducible assumption | with_reducible refine Blk.drew' ?_ | with_reducible refine Blk.alloc ?_ _ | with_reducible refine hkeep _ _ (by (try simp only [size_alloc]); omega) ?_ | with_reducible refine Blk.ext ?_ (by with_reducible assumption)))); rintro e w6 ⟨rfl, hx6⟩)
    | (go_simp; go_at_call 9; (with_reducible refine (sliced_o p o Ho _ _ ?_).mono ?_); (repeat (first | with_reducible exact Blk.new _ _ _ | with_reducible exact Blk.new' _ _ _ _ (by simp only [size_alloc]) | with_reducible assumption | with_reducible refine Blk.drew' ?_ | with_reducible refine Blk.alloc ?_ _ | with_reducible refine Blk.ext ?_ (by with_reducible assumption))); rintro e w7 ⟨rfl, hx7⟩))
  all_goals (
    go_wp2_with fail
    go_ret
    refine ⟨?_, Below.trans hB0.out (Below.mono (show Ext w1 _ from ?_) hB1)⟩
    · first | rfl | simp [ho]
    · (repeat (first | with_reducible exact Ext.refl _ | with_reducible assumption | with_reducible refine Ext.drew ?_ | with_reducible refine Ext.alloc ?_ _ | with_reducible refine Ext.trans ?_ (by with_reducible assumption))))
end Go.Proofs.Ytiibhdhmkjpafaa
