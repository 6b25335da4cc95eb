/- The eight tables as one list: what SlicingTables and Tables32 return; the law on them. -/
import Derived.Test.YtffpimiompibcaaChecked
import Derived.Test.YtffpimiompibcaaTb
import Derived.Test.YtffpimiompibcaaApp
import Derived.Test.YtffpimiompibcaaMt
import Derived.Test.YtffpimiompibcaaLawTt
import Derived.WalkKit
import Derived.LoopTactic
namespace Go.Proofs.Ytffpimiompibcaa
open Go.RowKit
theorem info_tabs : (Try.prog.info? 37).map (·.size) = some 2048 := by kernel_rfl
theorem tabs_one {p : BitVec 64} {cs : Array Value} (h : Tabs p 256 1 cs) (hs : cs.size = 2048) : ∀ v ∈ cs, v.oneCell' = true := by
  intro v hv
  obtain ⟨i, hi, rfl⟩ := Array.mem_iff_getElem.1 hv
  have := h (i / 256) (i % 256) (by omega) (by omega) (by omega)
  rw [show i / 256 * 256 + i % 256 = i by omega, Array.getElem?_eq_getElem hi] at this
  rw [Option.some.inj this]; rfl
set_option maxRecDepth 100000 in
set_option maxHeartbeats 400000 in
theorem stables_any (p : BitVec 64) (g0 : Nat) (w : World) (hT0 : TabAt w g0 p) (hg0 : g0 < w.heap.size) :
    Calls Try.prog 19 #[.pointer (some ⟨g0, 0, none⟩)] w fun e w' => ∃ cs, e = .returned (.agg cs) ∧ cs.size = 2048 ∧ Tabs p 256 1 cs ∧ Below w.heap.size w w' := by
  have hz := zero_tables
  have hb0 : Below w.heap.size w (w.alloc (.cells (zeroCells 2048) 37)) := (Below.refl _ _).alloc (Nat.le_refl _) _
  go_enter Try.func19, Try.ntmps19
  go_wp2_with fail
  have hB0 := Blk.new w 37 (zeroCells 2048)
  refine (slicing_any p g0 _ (hT0.below hb0 hg0) (by simp; omega)).mono ?_
  rintro e w1 ⟨g, cs, rfl, hB, hs, hT, hb, hg⟩
  have Hs : Hid (cs.size = 2048) := hs
  clear hs hz
  obtain ⟨w2, hr, hB2, hb2, _⟩ := (hB0.below hb (by simp)).storeAll (P := Try.prog) cs (by rw [Hs.out, zeroCells_size]) (tabs_one hT Hs.out)
  go_wp2_with (refine wpList_load_row rfl 37 _ rfl g rfl 37 cs (0, 0) _ hB Try.underlying37 rfl (by rw [Hs.out]; exact info_tabs) ?_)
  refine bodyPost_ret (v := .agg cs) (results_cell_row (p := 2) (ty := 37) (by kernel_rfl) _ w2 w.heap.size 37 cs (0, 0) _ rfl hB2 Try.underlying37 rfl (by rw [Hs.out]; exact info_tabs)) rfl ?_
  exact ⟨cs, rfl, Hs.out, hT, hb0.trans ((hb.mono (by simp)).trans hb2)⟩
/-- the first k tables, one behind the other -/
def flat (p : BitVec 64) (k : Nat) : List Value := (List.range (k * 256)).map fun i => .int .u64 (u (Crc.T p (i / 256) (i % 256)))
theorem flat_length (p : BitVec 64) (k : Nat) : (flat p k).length = k * 256 := by simp [flat]
theorem flat_get (p : BitVec 64) (k i : Nat) (h : i < k * 256) : (flat p k)[i]? = some (.int .u64 (u (Crc.T p (i / 256) (i % 256)))) := by
  unfold flat; rw [List.getElem?_map, List.getElem?_range h, Option.map_some]
theorem flat_succ {p : BitVec 64} {cs : Array Value} (h : Tabs p 256 1 cs) (hs : cs.size = 2048) (k : Nat) (hk : k < 8) : flat p k ++ (cs.extract (k * 256) (k * 256 + 256)).toList = flat p (k + 1) := by
  apply List.ext_getElem?
  intro i
  by_cases h1 : i < k * 256
  · rw [List.getElem?_append_left (by rw [flat_length]; exact h1), flat_get p k i h1, flat_get p (k + 1) i (Nat.lt_of_lt_of_le h1 (Nat.mul_le_mul_right _ (Nat.le_succ k)))]
  · rw [List.getElem?_append_right (by rw [flat_length]; omega), flat_length]
    by_cases h2 : i < (k + 1) * 256
    · rw [flat_get p (k + 1) i h2, Array.getElem?_toList, Array.getElem?_extract, if_pos (by omega), show k * 256 + (i - k * 256) = i by omega]
      have := h (i / 256) (i % 256) (by omega) (by omega) (by omega)
      rw [show i / 256 * 256 + i % 256 = i by omega] at this
      exact this
    · rw [List.getElem?_eq_none (by simp; omega), List.getElem?_eq_none (by rw [flat_length]; omega)]
theorem index_tab (cs : Array Value) (k : Nat) (hk : k < 8) (w : World) : (Instr.index 37 (.agg cs) (.int .i64 k)).run Try.prog w = .ok (.agg (cs.extract (k * 256) (k * 256 + 256))) w := by
  have h1 : (isAgg 36).run Try.prog w = .ok true w := by kernel_rfl
  have h2 : ∀ w, (sizeOf 36).run Try.prog w = .ok 256 w := fun _ => by kernel_rfl
  simp [Instr.index, asIntOf, run_underlying Try.underlying37, part, h2, hk]

theorem index_tabs {p : BitVec 64} {cs : Array Value} (h : Tabs p 256 1 cs) (hs : cs.size = 2048) (k : Nat) (hk : k < 8) :
    ∃ ts : Array Value, (∀ w, (Instr.index 37 (.agg cs) (.int .i64 k)).run Try.prog w = .ok (.agg ts) w) ∧ ts.size = 256 ∧ (∀ v ∈ ts, v.oneCell' = true) ∧ flat p k ++ ts.toList = flat p (k + 1) := by
  refine ⟨_, index_tab cs k hk, by simp; omega, fun v hv => ?_, flat_succ h hs k hk⟩
  obtain ⟨i, hi, rfl⟩ := Array.mem_iff_getElem.1 hv
  rw [Array.getElem_extract]
  exact tabs_one h hs _ (Array.getElem_mem _)
theorem info_word : (Try.prog.info? 22).map (fun i => (i.zero, i.size, i.bytes)) = some (some (.int .u64 0), 1, 8) := by kernel_rfl
/-- what Tables32 leaves -/
def TablesPost (p : BitVec 64) (w : World) (e : Ending) (w' : World) : Prop := ∃ A c, e = .returned (.slice A 2048 c) ∧ Cells w' w'.heap.size A (flat p 8) ∧ Below w.heap.size w w'
set_option maxRecDepth 100000 in
set_option maxHeartbeats 400000 in
theorem tables_any (p : BitVec 64) (w : World) :
    Calls Try.prog 12 #[.int .u64 (u p)] w (TablesPost p w) := by
  have hz := zero_table
  obtain ⟨i0, hi, hz0, hz1, hz2⟩ := info_parts info_word
  go_enter Try.func12, Try.ntmps12
  go_wp2_with fail
  refine (st_any p _).mono ?_
  rintro e w0 ⟨g0, rfl, hT0, hgl0, _, hb0⟩
  go_wp2_with fail
  refine (stables_any p g0 _ hT0 hgl0).mono ?_
  rintro e w1 ⟨cs, rfl, hs, hT, hb1⟩
  have hb := hb0.trans (hb1.mono hb0.size)
  clear hT0 hb0 hb1
  have Hs : Hid (cs.size = 2048) := hs
  clear hs
  go_wp2_with fail
  go_loopw [3, 5, 9] (fun s _ i wr => ∃ k : Nat, k ≤ 8 ∧ i = .int .i64 k ∧ wr.ownsRow w.heap.size 22 1 s (k * 256) (flat p k) ∧ Below w.heap.size w wr) (fun _ _ i _ => 8 - (intOf i).toNat)
  case atStart => exact ⟨0, by omega, rfl, World.ownsRow_nil _ _ _ _, hb⟩
  case round =>
    obtain ⟨k, hk, rfl, hown, hbr⟩ := hrel
    obtain ⟨A, c, rfl, _, _, _⟩ := ownsRow_form hown
    by_cases hlt : k < 8
    · have hd : decide ((k : Int) < 8) = true := decide_eq_true (by omega)
      obtain ⟨ts, hix, hts, ht1, hfl⟩ := index_tabs hT Hs.out k hlt
      have Hfl : Hid (flat p k ++ ts.toList = flat p (k + 1)) := hfl
      clear hfl
      obtain ⟨w2, hr, hB2, hb2, hsz⟩ := (Blk.new wr 36 (zeroCells 256)).storeAll (P := Try.prog) ts (by rw [hts, zeroCells_size]) ht1
      have Hsz : Hid (w2.heap.size = (wr.alloc (.cells (zeroCells 256) 36)).heap.size) := hsz
      clear hsz
      have hown2 : w2.ownsRow w.heap.size 22 1 (.slice A (k * 256) c) (k * 256) (flat p k) := owns_below hown (((Below.refl _ _).alloc (Nat.le_refl _) _).trans hb2) (Nat.le_refl _)
      obtain ⟨A3, c3, w3, hr3, hown3, _, hb3, hc3, hcell3⟩ := run_app (P := Try.prog) w2 w.heap.size 23 23 22 i0 (.int .u64 0) 8 Try.underlying23 hi hz0 hz1 hz2 rfl _ _ _ hown2 (wr.heap.size + 1) (some ⟨wr.heap.size, 0, none⟩) 256 256 ts.toList (by simpa using hts)
        (fun _ => ⟨wr.heap.size, 0, rfl, by omega, fun j v hv => by rw [Nat.zero_add, hB2.cell]; simpa using hv⟩) (fun v hv => ht1 v (by simpa using hv)) (by unfold maxLen; omega) (by omega) (by have := hbr.size; have := Hsz.out; simp at this; omega)
      go_wp2_with fail
      refine wp_run_append _ _ _ _ rfl rfl rfl hr3 ?_
      rw [Hfl.out] at hown3
      clear hr3 hr hix
      go_wp2_with fail
      go_roundw
      case rel => exact ⟨k + 1, by omega, by go_num, by rw [show (k + 1) * 256 = k * 256 + 256 by omega]; exact hown3, hbr.trans ((((Below.refl _ _).alloc hbr.size _).trans (hb2.mono hbr.size)).trans hb3)⟩
      case measure => simp [intOf]; omega
    · obtain rfl : k = 8 := by omega
      obtain ⟨_, _, he, _, _, hcell⟩ := ownsRow_form hown
      injection he with h1 _ h3; subst h1; subst h3
      go_wp2_with fail
      go_ret
      exact ⟨A, c, rfl, hcell, hbr⟩
theorem byte_T (p : BitVec 64) (k i : Nat) : Crc.byteReg p (Crc.T p k i) 0#8 = Crc.T p (k + 1) i := by
  unfold Crc.byteReg Crc.T
  rw [show 8 * (k + 1 + 1) = 8 * (k + 1) + 8 by omega, Crc.steps_add p _ (8 * (k + 1)) 8]
  simp
/-- the register in FnTables, ahead of table k -/
def regTab (p : BitVec 64) (i k : Nat) : BitVec 64 := Crc.steps p (8 * k) (BitVec.ofNat 64 i)
theorem regTab_succ (p : BitVec 64) (i k : Nat) : Crc.byteReg p (regTab p i k) 0#8 = regTab p i (k + 1) := by
  unfold Crc.byteReg regTab
  rw [show 8 * (k + 1) = 8 * k + 8 by omega, Crc.steps_add p _ (8 * k) 8]
  simp
theorem regTab_T (p : BitVec 64) (i k : Nat) : regTab p i (k + 1) = Crc.T p k i := rfl
set_option maxRecDepth 100000 in
set_option maxHeartbeats 400000 in
theorem law_FnTables64 (p : BitVec 64) {w : World} :
    Calls Try.prog 3 #[.int .u64 (u p)] w fun e w' => e = .returned (.bool true) ∧ Below w.heap.size w w' := by
  go_enter Try.func3, Try.ntmps3
  go_wp2_with fail
  refine (tables_any p _).mono ?_
  rintro e w1 ⟨A, c, rfl, hC, hb⟩
  obtain ⟨b, off, rfl, hbl, hcell⟩ := hC (by rw [flat_length]; omega)
  have HC : Hid (∀ j v, (flat p 8)[j]? = some v → w1.cell? ⟨b, off + j, none⟩ = some v) := hcell
  clear hC hcell
  go_wp2_with fail
  go_loop [4, 5, 6] (fun i _ _ => ∃ k : Nat, k ≤ 256 ∧ i = .int .i64 k) (fun i _ _ => 256 - (intOf i).toNat)
  case atStart => exact ⟨0, by omega, rfl⟩
  case round =>
    obtain ⟨i, hi, rfl⟩ := hrel
    by_cases hlt : i < 256
    · have hd : decide ((i : Int) < 256) = true := decide_eq_true (by omega)
      go_wp2_with fail
      go_loop [5, 6] (fun r j => ∃ k : Nat, k ≤ 8 ∧ j = .int .i64 k ∧ r = .int .u64 (u (regTab p i k))) (fun _ j => 8 - (intOf j).toNat)
      case atStart => exact ⟨0, by omega, rfl, by rw [show u (regTab p i 0) = (i : Int) from (regI_zero p i hlt).symm]⟩
      case round =>
        obtain ⟨k, hk, rfl, rfl⟩ := hrel
        by_cases hlt2 : k < 8
        · have hd2 : decide ((k : Int) < 8) = true := decide_eq_true (by omega)
          have hck : w1.cell? ⟨b, off + (256 * k + i), none⟩ = some (.int .u64 (u (regTab p i (k + 1)))) := by
            have h := HC.out (256 * k + i) _ (flat_get p 8 _ (by omega))
            rw [h, regTab_T, show (256 * k + i) / 256 = k by omega, show (256 * k + i) % 256 = i by omega]
          go_wp2_with fail
          rw [zero8_u]
          refine (byte_any _ _ _ _).mono ?_
          rintro e w2 ⟨rfl, rfl⟩
          rw [regTab_succ]
          go_wp2_with fail
          go_round
          case rel => exact ⟨k + 1, by omega, by go_num, rfl⟩
          case measure => simp [intOf]; omega
        · obtain rfl : k = 8 := by omega
          go_wp2_with fail
          go_round
          case rel => exact ⟨i + 1, by omega, by go_num⟩
          case measure => simp [intOf]; omega
    · obtain rfl : i = 256 := by omega
      go_wp2_with fail
      go_ret
      exact ⟨rfl, hb⟩
end Go.Proofs.Ytffpimiompibcaa
