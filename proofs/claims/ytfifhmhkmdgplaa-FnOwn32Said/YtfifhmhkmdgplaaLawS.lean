/- A sum by any table: what Simple32 returns; the laws on it and on both roads. -/
import Derived.Test.YtfifhmhkmdgplaaChecked
import Derived.Test.YtfifhmhkmdgplaaImpl
import Derived.Test.YtfifhmhkmdgplaaApp
import Derived.Test.YtfifhmhkmdgplaaMake
import Derived.Test.YtfifhmhkmdgplaaLawA
import Derived.WalkKit
import Derived.LoopTactic
import Derived.Outline
namespace Go.Proofs.Ytfifhmhkmdgplaa
open Go.RowKit
/-- entry i of a table given as a list: what lacks is 0 -/
def tfun (ws : List (BitVec 32)) (i : Nat) : BitVec 32 := ws.getD i 0#32
theorem simpleUpdate_any (tf : Nat → BitVec 32) (c : BitVec 32) (g : Nat) (A : Option Addr) (l : List (BitVec 8)) (n cap B : Nat) (w : World) (hn : n = l.length) (hm : n ≤ 140737488355328) (hA : Bytes w B A l)
    (hT : ∀ i, i < 256 → w.cell? ⟨g, i, none⟩ = some (.int .u32 (u (tf i)))) :
    Calls Try.prog 30 #[.int .u32 (u c), .pointer (some ⟨g, 0, none⟩), .slice A n cap] w fun e w' => e = .returned (.int .u32 (u (sumT tf c l))) ∧ w = w' := by
  have Hn : Hid (n = l.length) := hn
  have HT : Hid (∀ i, i < 256 → w.cell? ⟨g, i, none⟩ = some (.int .u32 (u (tf i)))) := hT
  clear hn hT
  go_enter Try.func30, Try.ntmps30
  go_wp2_with fail
  refine (update_any tf c g A l n cap B w Hn.out hm hA HT.out).mono ?_
  rintro e w' ⟨rfl, rfl⟩
  go_wp2
  go_ret
  exact ⟨rfl, rfl⟩
theorem info_word1 : (Try.prog.info? 22).map (·.size) = some 1 := by kernel_rfl
theorem tab_of_copy (ws : List (BitVec 32)) (i : Nat) (hi : i < 256) :
    ((zeroCells 256).toList.take 0 ++ (ws.take 256).map wordV ++ (zeroCells 256).toList.drop (0 + ((ws.take 256).map wordV).length)).toArray[i]? = some (.int .u32 (u (tfun ws i))) := by
  rw [List.getElem?_toArray, List.take_zero, List.nil_append]
  by_cases h : i < ws.length
  · rw [List.getElem?_append_left (by simp; omega), List.getElem?_map, List.getElem?_take_of_lt hi, List.getElem?_eq_getElem h, Option.map_some]
    simp [wordV, tfun, h]
  · rw [List.getElem?_append_right (by simp; omega), List.getElem?_drop]
    have e : tfun ws i = 0#32 := by simp [tfun, Nat.le_of_not_lt h]
    rw [e]
    simp only [zeroCells, Array.toList_replicate, List.length_map, List.length_take]
    rw [List.getElem?_replicate, if_pos (by omega)]
    rfl
theorem copy_run {W : World} {g : Nat} (hB : Blk W g 50 (zeroCells 256)) {B : Nat} {A : Option Addr} {nt ct : Nat} {ws : List (BitVec 32)} (hnt : nt = ws.length) (hC : Cells W B A (ws.map wordV)) :
    ∃ w2 cs' k, (Builtin.copy_ #[23, 23] 3 #[.slice (some ⟨g, 0, none⟩) 256 256, .slice A nt ct]).run Try.prog W = .ok (.int .i64 k) w2 ∧ Blk w2 g 50 cs' ∧ (∀ i, i < 256 → cs'[i]? = some (.int .u32 (u (tfun ws i)))) ∧ Below g W w2 := by
  have hone : ∀ v ∈ (ws.take 256).map wordV, v.oneCell' = true := by
    intro v hv
    obtain ⟨x, _, rfl⟩ := List.mem_map.1 hv
    rfl
  have hB' : W.heap[g]? = some (.cells (zeroCells 256) 50 (0, 0)) := hB
  cases A with
  | none =>
    have h0 : ws = [] := by
      rcases Nat.eq_zero_or_pos ws.length with h | h
      · exact List.eq_nil_of_length_eq_zero h
      · obtain ⟨b, off, he, _⟩ := hC (by simpa using h); cases he
    subst h0
    subst hnt
    obtain ⟨i0, hi, hz0⟩ : ∃ i0, Try.prog.info? 22 = some i0 ∧ i0.size = 1 := by
      cases hq : Try.prog.info? 22 with
      | none => have := info_word1; rw [hq] at this; cases this
      | some i => have := info_word1; rw [hq] at this; exact ⟨i, rfl, by simpa using this⟩
    refine ⟨W, zeroCells 256, 0, ?_, hB, fun i hi => ?_, Below.refl _ _⟩
    · simp [Builtin.copy_, run_underlying Try.underlying23, Builtin.lenOf, Builtin.firstCells, sizeOf, typeInfo, hi, storeCells, goInt]
    · have := tab_of_copy [] i hi
      simpa using this
  | some a =>
    have hsrc : ∀ j v, ((ws.take 256).map wordV)[j]? = some v → W.cell? (a.add j) = some v := by
      intro j v hv
      have hj := (List.getElem?_eq_some_iff.1 hv).1
      simp at hj
      obtain ⟨b, off, he, _, hc⟩ := hC (by simp; omega)
      injection he with he; subst he
      have : (⟨b, off, none⟩ : Addr).add j = ⟨b, off + j, none⟩ := by unfold Addr.add; split <;> simp_all
      rw [this]
      apply hc
      rw [List.map_take, List.getElem?_take_of_lt (by omega)] at hv
      exact hv
    have hr := run_copy_row (P := Try.prog) W 23 23 3 22 g 0 256 256 a nt ct (zeroCells 256) 50 ((ws.take 256).map wordV) Try.underlying23 info_word1 hB'
      (by simp [hnt, Nat.min_comm]) hsrc (by rw [zeroCells_size]; simp; omega) hone
    exact ⟨_, _, _, hr, setRow_heap W g _ _ _ _ hB', fun i hi => tab_of_copy ws i hi, grown_setRow W g _⟩
set_option maxRecDepth 100000 in
set_option maxHeartbeats 400000 in
theorem simple_any (c : BitVec 32) (A : Option Addr) (ws : List (BitVec 32)) (nt ct : Nat) (hnt : nt = ws.length) (B : Nat) (A2 : Option Addr) (l : List (BitVec 8)) (n cap : Nat) (w : World) (hn : n = l.length) (hm : n ≤ 140737488355328)
    (hC : Cells w B A (ws.map wordV)) (hA : Bytes w B A2 l) (hB : B ≤ w.heap.size) :
    SumsTo 18 #[.int .u32 (u c), .slice A nt ct, .slice A2 n cap] w (sumT (tfun ws) c l) := by
  have Hn : Hid (n = l.length) := hn
  have Hnt : Hid (nt = ws.length) := hnt
  clear hn hnt
  have hz := zero_table
  unfold SumsTo
  go_enter Try.func18, Try.ntmps18
  obtain ⟨w2, cs', k, hr, hB2, hT2, hb2⟩ := copy_run (Blk.new w 50 (zeroCells 256)) (ct := ct) Hnt.out (hC.below ((Below.refl _ w).alloc (Nat.le_refl _) (.cells (zeroCells 256) 50)) hB)
  have hb3 : Below w.heap.size w w2 := ((Below.refl _ _).alloc (Nat.le_refl _) _).trans hb2
  have HT : Hid (∀ i, i < 256 → cs'[i]? = some (.int .u32 (u (tfun ws i)))) := hT2
  clear hT2 hb2
  go_wp2_with fail
  refine (simpleUpdate_any (tfun ws) c w.heap.size A2 l n cap B w2 Hn.out hm (hA.below hb3 hB) (fun i hi => by rw [hB2.cell]; exact HT.out i hi)).mono ?_
  rintro e w' ⟨rfl, rfl⟩
  clear hr
  go_wp2_with fail
  go_ret
  exact ⟨rfl, hb3⟩
theorem sumT_congr (tf tf' : Nat → BitVec 32) (h : ∀ i, i < 256 → tf i = tf' i) (c : BitVec 32) (l : List (BitVec 8)) : sumT tf c l = sumT tf' c l := by
  have e : upd tf = upd tf' := funext fun c => funext fun b => by unfold upd; rw [h _ (byte_lt' _)]
  unfold sumT regT
  rw [e]
/-- a table as a list -/
def tabList (p : BitVec 32) : List (BitVec 32) := (List.range 256).map (Crc.T p 0)
theorem tabList_length (p : BitVec 32) : (tabList p).length = 256 := by unfold tabList; rw [List.length_map, List.length_range]
theorem tabList_fun (p : BitVec 32) (i : Nat) (h : i < 256) : tfun (tabList p) i = Crc.T p 0 i := by
  unfold tfun tabList
  rw [List.getD_eq_getElem?_getD, List.getElem?_map, List.getElem?_range h]; rfl
theorem tab_cells {w : World} {g : Nat} {t : TypeId} {cs : Array Value} {p : BitVec 32} (hB : Blk w g t cs) (hT : Tab p 256 cs) : Cells w w.heap.size (some ⟨g, 0, none⟩) ((tabList p).map wordV) := by
  intro _
  refine ⟨g, 0, rfl, hB.lt, fun j v hv => ?_⟩
  have hj := (List.getElem?_eq_some_iff.1 hv).1
  rw [List.length_map, tabList_length] at hj
  rw [Nat.zero_add, hB.cell, hT j hj, ← hv]
  unfold tabList
  rw [List.getElem?_map, List.getElem?_map, List.getElem?_range hj]; rfl
theorem simple_table (p c : BitVec 32) (l : List (BitVec 8)) : sumT (tfun (tabList p)) c l = Crc.sum p c l := by
  rw [sumT_congr _ _ (tabList_fun p), sumT_T]
set_option maxRecDepth 100000 in
theorem law_FnExactSimple (c p : BitVec 32) (a : Option Addr) (n cap : Nat) (l : List (BitVec 8)) (hn : n = l.length) {w : World} (hA : Bytes w w.heap.size a l) (_hcap : n ≤ cap) :
    Calls Try.prog 7 #[.int .u32 (u c), .int .u32 (u p), .slice a n cap] w fun e w' => e = .returned (.bool true) ∧ Below w.heap.size w w' := by
  have Hn : Hid (n = l.length) := hn
  clear hn
  by_cases hbig : 2147483647 < n
  · go_enter Try.func7, Try.ntmps7
    go_wp2_with fail
    go_ret
    exact ⟨rfl, Below.refl _ _⟩
  · go_enter Try.func7, Try.ntmps7
    go_wp2_with fail
    refine (table_any p _).mono ?_
    rintro e w1 ⟨g, cs, rfl, hB, hs, hT, hb, hg⟩
    clear hs
    go_wp2_with fail
    refine (simple_any c (some ⟨g, 0, none⟩) (tabList p) 256 256 (tabList_length p).symm w1.heap.size a l n cap w1 Hn.out (by omega) (tab_cells hB hT) ((hA.below hb (Nat.le_refl _)).more hb.size) (Nat.le_refl _)).mono ?_
    rw [simple_table]
    rintro e w2 ⟨rfl, hb2⟩
    go_wp2_with fail
    refine (sum_any p c a l n cap _ w2 Hn.out (by omega) ((hA.below hb (Nat.le_refl _)).below hb2 hb.size)).mono ?_
    rintro e w3 ⟨rfl, rfl⟩
    go_wp2
    go_ret
    exact ⟨rfl, hb.trans (hb2.mono hb.size)⟩
theorem sum_zero_byte (p : BitVec 32) : Crc.sum p (BitVec.allOnes 32) [0#8] = BitVec.allOnes 32 := by
  unfold Crc.sum Crc.crcReg Crc.byteReg
  simp only [List.foldl_cons, List.foldl_nil, BitVec.setWidth_zero, BitVec.xor_zero]
  rw [show ~~~ (BitVec.allOnes 32) = 0#32 by decide, Crc.steps_zero]; decide
set_option maxRecDepth 100000 in
theorem law_FnRoads32 (c p : BitVec 32) (a : Option Addr) (n cap : Nat) (l : List (BitVec 8)) (hn : n = l.length) {w : World} (hA : Bytes w w.heap.size a l) (hcap : n ≤ cap) :
    Calls Try.prog 17 #[.int .u32 (u c), .int .u32 (u p), .slice a n cap] w fun e w' => e = .returned (.bool true) ∧ Below w.heap.size w w' := by
  have Hn : Hid (n = l.length) := hn
  clear hn
  by_cases hbig : 2147483647 < n
  · go_enter Try.func17, Try.ntmps17
    go_wp2_with fail
    go_ret
    exact ⟨rfl, Below.refl _ _⟩
  · go_enter Try.func17, Try.ntmps17
    go_wp2_with fail
    refine (table_any p _).mono ?_
    rintro e w1 ⟨g, cs, rfl, hB, hs, hT, hb, hg⟩
    clear hs
    go_wp2_with fail
    refine (simple_any c (some ⟨g, 0, none⟩) (tabList p) 256 256 (tabList_length p).symm w1.heap.size a l n cap w1 Hn.out (by omega) (tab_cells hB hT) ((hA.below hb (Nat.le_refl _)).more hb.size) (Nat.le_refl _)).mono ?_
    rw [simple_table]
    rintro e w2 ⟨rfl, hb2⟩
    have hA2 := (hA.below hb (Nat.le_refl _)).below hb2 hb.size
    have hbb : Below w.heap.size w w2 := hb.trans (hb2.mono hb.size)
    clear hb hb2 hA hB hT
    go_wp2_with fail
    refine (sliced_any p c a l n cap _ w2 Hn.out (by omega) hcap hA2 hbb.size).mono ?_
    rintro e w3 ⟨rfl, hb3⟩
    have hA3 := hA2.below hb3 hbb.size
    have hbc : Below w.heap.size w w3 := hbb.trans (hb3.mono hbb.size)
    clear hb3 hA2 hbb
    go_wp2_with fail
    refine (updateIEEE_any c a l n cap _ w3 Hn.out (by omega) hcap hA3 hbc.size).mono ?_
    rintro e w4 ⟨rfl, hb4⟩
    have hA4 := hA3.below hb4 hbc.size
    have hbd : Below w.heap.size w w4 := hbc.trans (hb4.mono hbc.size)
    clear hb4 hA3 hbc
    go_wp2_with fail
    rw [ieee_u]
    refine (sliced_any ieee c a l n cap _ w4 Hn.out (by omega) hcap hA4 hbd.size).mono ?_
    rintro e w5 ⟨rfl, hb5⟩
    have hbe : Below w.heap.size w w5 := hbd.trans (hb5.mono hbd.size)
    clear hb5 hA4 hbd
    go_wp2_with fail
    rw [ones_u]
    refine (sliced_any p 4294967295#32 _ [0#8] _ _ _ _ rfl (by simp) (by simp) (bytes_new1 w5 _ 0#8) (by simp)).mono ?_
    rintro e w6 ⟨rfl, hb6⟩
    have hbf : Below w.heap.size w w6 := hbe.trans (((Below.refl _ _).alloc hbe.size _).trans (hb6.mono (by simp; have := hbe.size; omega)))
    rw [show Crc.sum p 4294967295#32 [0#8] = 4294967295#32 from sum_zero_byte p]
    clear hb6
    go_wp2_with fail
    go_ret
    exact ⟨rfl, hbf⟩
end Go.Proofs.Ytfifhmhkmdgplaa
