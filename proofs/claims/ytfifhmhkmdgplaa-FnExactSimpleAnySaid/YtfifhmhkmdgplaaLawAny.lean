/- The law on a sum by any table. -/
import Derived.Test.YtfifhmhkmdgplaaChecked
import Derived.Test.YtfifhmhkmdgplaaLawS
import Derived.WalkKit
import Derived.LoopTactic
import Derived.Outline
namespace Go.Proofs.Ytfifhmhkmdgplaa
open Go.RowKit
theorem regT_succ' (tf : Nat → BitVec 32) (c : BitVec 32) (l : List (BitVec 8)) (k : Nat) (h : k < l.length) : (regT tf c l k) >>> 8 ^^^ tf (u ((regT tf c l k).setWidth 8 ^^^ nth l k)).toNat = regT tf c l (k + 1) := by
  rw [BitVec.xor_comm]; exact regT_succ tf c l k h
theorem info_word : (Try.prog.info? 22).map (fun i => (i.zero, i.size, i.bytes)) = some (some (.int .u32 0), 1, 4) := by kernel_rfl
theorem words_one (ws : List (BitVec 32)) : ∀ v ∈ ws.map wordV, v.oneCell' = true := by
  intro v hv
  obtain ⟨x, _, rfl⟩ := List.mem_map.1 hv
  rfl
theorem all_cell (ws : List (BitVec 32)) (i : Nat) (h : i < 256) : (ws.map wordV ++ List.replicate 256 (.int .u32 0))[i]? = some (.int .u32 (u (tfun ws i))) := by
  by_cases hl : i < ws.length
  · rw [List.getElem?_append_left (by simpa using hl), List.getElem?_map, List.getElem?_eq_getElem hl, Option.map_some]
    simp [wordV, tfun, hl]
  · rw [List.getElem?_append_right (by simp; omega), List.getElem?_replicate, if_pos (by simp; omega)]
    have e : tfun ws i = 0#32 := by simp [tfun, Nat.le_of_not_lt hl]
    rw [e]; rfl
set_option maxRecDepth 100000 in
set_option maxHeartbeats 400000 in
theorem law_FnExactSimpleAny (c : BitVec 32) (at_ : Option Addr) (nt ct : Nat) (ws : List (BitVec 32)) (hnt : nt = ws.length) {w : World} (hC : Cells w w.heap.size at_ (ws.map wordV)) (_hct : nt ≤ ct) (a : Option Addr) (n cap : Nat) (l : List (BitVec 8)) (hn : n = l.length) (hA : Bytes w w.heap.size a l) (_hcap : n ≤ cap) :
    Calls Try.prog 3 #[.int .u32 (u c), .slice at_ nt ct, .slice a n cap] w fun e w' => e = .returned (.bool true) ∧ Below w.heap.size w w' := by
  have Hn : Hid (n = l.length) := hn
  have Hnt : Hid (nt = ws.length) := hnt
  clear hn hnt
  obtain ⟨i0, hi, hz0, hz1, hz2⟩ := info_parts info_word
  by_cases hbig : 2147483647 < nt
  · have hd : decide ((2147483647 : Int) < (nt : Int)) = true := decide_eq_true (by omega)
    go_enter Try.func3, Try.ntmps3
    go_wp2_with fail
    go_ret
    exact ⟨rfl, Below.refl _ _⟩
  have hd : decide ((2147483647 : Int) < (nt : Int)) = false := decide_eq_false (by omega)
  by_cases hbig2 : 2147483647 < n
  · have hd2 : decide ((2147483647 : Int) < (n : Int)) = true := decide_eq_true (by omega)
    go_enter Try.func3, Try.ntmps3
    go_wp2_with fail
    go_ret
    exact ⟨rfl, Below.refl _ _⟩
  have hd2 : decide ((2147483647 : Int) < (n : Int)) = false := decide_eq_false (by omega)
  have hbe : Below w.heap.size w (w.alloc (.cells #[] 22)) := (Below.refl _ w).alloc (Nat.le_refl _) _
  obtain ⟨A1, c1, w1, hr1, hown1, _, hb1, hc1, _⟩ := run_app (P := Try.prog) (w.alloc (.cells #[] 22)) w.heap.size 23 23 22 i0 (.int .u32 0) 4 Try.underlying23 hi hz0 hz1 hz2 rfl _ 0 [] (World.ownsRow_made w #[] 0 (Nat.le_refl _) (by unfold maxLen; omega) rfl) w.heap.size at_ nt ct (ws.map wordV) (by rw [List.length_map]; exact Hnt.out.symm) (hC.below hbe (Nat.le_refl _)) (words_one ws) (by unfold maxLen; omega) (by omega) hbe.size
  simp only [Nat.zero_add, List.nil_append] at hr1 hown1 hc1
  have hb1' := hbe.trans hb1
  obtain ⟨A2, c2, w2, hr2, hown2, _, hb2, hc2, hcell2⟩ := run_app_zeros (P := Try.prog) w1 w.heap.size 23 3 23 22 i0 (.int .u32 0) 4 Try.underlying23 Try.underlying3 hi hz0 hz1 hz2 rfl rfl _ nt _ hown1 256 (by omega) (by unfold maxLen; omega) (by omega) hb1'.size
  have hb2' := hb1'.trans hb2
  obtain ⟨b, off, rfl, hbl, hcc⟩ := hcell2 (by rw [List.length_append, List.length_replicate]; omega)
  have HT : Hid (∀ i, i < 256 → w2.cell? ⟨b, off + i, none⟩ = some (.int .u32 (u (tfun ws i)))) := fun i hi => hcc i _ (all_cell ws i hi)
  have hA2 := hA.below hb2' (Nat.le_refl _)
  have hC2 := hC.below hb2' (Nat.le_refl _)
  clear hcell2 hcc hown2 hown1 hC hb1 hb2 hb1' hbe hz0 hz1 hz2 hi
  go_enter Try.func3, Try.ntmps3
  go_wp2_with (first | (at_builtin; refine wpList_run_append rfl (.tmp 18) (.tmp 19) _ _ rfl rfl rfl hr1 ?_) | (at_builtin; refine wpList_run_append rfl (.tmp 20) _ _ _ rfl rfl rfl hr2 ?_))
  clear hr1 hr2
  go_loop [8, 9] (fun r i => ∃ k : Nat, k ≤ n ∧ i = .int .i64 k ∧ r = .int .u32 (u (regT (tfun ws) c l k))) (fun _ i => n - (intOf i).toNat)
  case atStart => exact ⟨0, by omega, rfl, rfl⟩
  case round =>
    obtain ⟨k, hk, rfl, rfl⟩ := hrel
    by_cases hlt : k < n
    · obtain ⟨b2, off2, rfl, hb, hc⟩ := hA2 (by rw [← Hn.out]; omega)
      have hck := hc k (by rw [← Hn.out]; exact hlt)
      have hlo := u_nonneg ((regT (tfun ws) c l k).setWidth 8 ^^^ nth l k)
      have hhi := byte_lt ((regT (tfun ws) c l k).setWidth 8 ^^^ nth l k)
      have hct := HT.out _ (byte_lt' ((regT (tfun ws) c l k).setWidth 8 ^^^ nth l k))
      clear hc hA2 hA
      go_wp2_with fail
      go_round
      case rel => exact ⟨k + 1, by omega, by go_num, by rw [regT_succ' (tfun ws) c l k (by rw [← Hn.out]; exact hlt)]⟩
      case measure => simp [intOf]; omega
    · obtain rfl : k = n := by omega
      go_wp2_with fail
      refine (simple_any c at_ ws nt ct Hnt.out w.heap.size a l k cap w2 Hn.out (by omega) hC2 hA2 hb2'.size).mono ?_
      rintro e w3 ⟨rfl, hb3⟩
      go_wp2_with fail
      go_ret
      refine ⟨ret_b ?_, hb2'.trans (hb3.mono hb2'.size)⟩
      rw [u_beq, beq_iff_eq, Hn.out]; rfl
end Go.Proofs.Ytfifhmhkmdgplaa
