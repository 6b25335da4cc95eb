/- A sum of 64 bits: what update returns, any other polynomial (made by mkup.py). -/
import Derived.Test.YtocolnikidfbnaaChecked
import Derived.Test.YtocolnikidfbnaaUp
import Derived.WalkKit
import Derived.LoopTactic
import Derived.Deep.QuietTactic
import Derived.BigQuiet
import Derived.Deep.RegionHeld3
import Derived.OrdersHeld
namespace Go.Proofs.Ytocolnikidfbnaa
open Go.RowKit
set_option maxRecDepth 100000 in
set_option maxHeartbeats 4000000 in
theorem update_other (p c : BitVec 64) (hecma : (p == ecma) = false) (hiso : (p == iso) = false) (g b off : Nat) (l : List (BitVec 8)) (n cap B : Nat) (w : World) (hn : n = l.length) (hm : n ≤ 140737488355328) (hcap : n ≤ cap) (hA : Bytes w B (some ⟨b, off, none⟩) l) (hT : TabAt w g p) (hg : g < w.heap.size) (hB : B ≤ w.heap.size) :
    Calls Try.prog 25 #[.int .u64 (u c), .pointer (some ⟨g, 0, none⟩), .slice (some ⟨b, off, none⟩) n cap] w (SumPost (Crc.sum p c l) w) := by
  have Hn : Hid (n = l.length) := hn
  clear hn
  go_enter Try.func25, Try.ntmps25
  go_wp2_with fail
  go_loopw [0, 2, 7] (fun r s _ wr => ∃ m n' cap' : Nat, Hid (n' + m = n) ∧ Hid (cap' + m = cap) ∧ Below w.heap.size w wr ∧ s = .slice (some ⟨b, off + m, none⟩) n' cap' ∧ r = .int .u64 (u (Crc.crcReg p (~~~ c) (l.take m)))) (fun _ s _ _ => sliceLen s)
  case atStart => exact ⟨0, n, cap, rfl, rfl, Below.refl _ _, rfl, rfl⟩
  case round =>
    obtain ⟨m, n', cap', Hm, Hcap, hbr, rfl, rfl⟩ := hrel
    have hT' := hT.below hbr hg
    have hgr : g < wr.heap.size := Nat.lt_of_lt_of_le hg hbr.size
    by_cases hge : 64 ≤ n'
    · have hd : decide ((64 : Int) ≤ (n' : Int)) = true := decide_eq_true (by omega)
      go_wp2_with fail
      refine wp_region_held_drew (S := fun W => TabAt W g p) (by kernel_rfl) (show TabAt wr.drew g p from hT') (fun hS => ?_)
      refine wpAnyH_take (i := 0) (v := .pointer (some ⟨g, 0, none⟩)) rfl (by kernel_rfl) (by kernel_rfl) (by kernel_rfl) (fun _ _ _ h => h) (Or.inl ⟨by rfl, fun w _ => by rfl⟩) hS ?_
      refine wpAnyH_take (i := 1) (v := .pointer (some ⟨g, 0, none⟩)) rfl (by kernel_rfl) (by kernel_rfl) (by kernel_rfl) (fun _ _ _ h => h) (Or.inl ⟨by rfl, fun w _ => by rfl⟩) hS ?_
      refine wpAnyH_take (i := 2) (v := .agg (tabArr p)) rfl (by kernel_rfl) (by kernel_rfl) (by kernel_rfl) (fun _ _ _ h => h) (Or.inl ⟨by rfl, fun w hw => exec_load_cells 56 _ rfl g 0 rfl (tabArr p) _ hw.arr Try.underlying56 rfl (by rw [tabArr_size]; exact info_table)⟩) hS ?_
      refine wpAnyH_ready (rs := [3]) (by kernel_rfl) (by simp) ?_
      refine AllReadyH.cons (o := _) rfl ?_ AllReadyH.nil
      intro K' hK'
      go_simp
      refine (ecma_any _).mono ?_
      rintro e w2 ⟨g2, csg2, rfl, hBg2, hsg2, hTg2, hbg2, hgg2⟩
      clear hsg2
      have hbelg2 : Below wr.heap.size wr w2 := ((Below.refl wr.heap.size wr).drew).trans hbg2
      have hSg2 : TabAt w2 g p := hT'.below hbelg2 hgr
      have hEg2 : TabAt w2 g2 ecma := tabs_tab hBg2 hTg2
      refine hK'.out _ _ hSg2 (fun hS => ?_)
      clear hK' K'
      refine wpAnyH_take (i := 4) (v := .pointer (some ⟨g2, 0, none⟩)) rfl (by kernel_rfl) (by kernel_rfl) (by kernel_rfl) (fun _ _ _ h => h) (Or.inl ⟨by rfl, fun w _ => by rfl⟩) hS ?_
      refine wpAnyH_take (i := 5) (v := .pointer (some ⟨g2, 0, none⟩)) rfl (by kernel_rfl) (by kernel_rfl) (by kernel_rfl) (fun _ _ _ h => h) (Or.inl ⟨by rfl, fun w _ => by rfl⟩) hS ?_
      refine wpAnyH_ready (rs := [6]) (by kernel_rfl) (by simp) ?_
      refine AllReadyH.cons (o := _) rfl ?_ AllReadyH.nil
      intro K' hK'
      refine (if_pos (by rfl)).mpr ?_
      refine wp_load_cells 56 _ rfl g2 0 rfl (tabArr ecma) _ hEg2.arr Try.underlying56 rfl (by rw [tabArr_size]; exact info_table) ?_
      refine hK'.out _ _ hSg2 (fun hS => ?_)
      clear hK' K'
      refine wpAnyH_take (i := 7) (v := .bool false) rfl (by kernel_rfl) (by kernel_rfl) (by kernel_rfl) (fun _ _ _ h => h) (Or.inl ⟨by rfl, fun w _ => exec_eq _ _ p ecma false hecma rfl rfl rfl⟩) hS ?_
      refine wpAnyH_done (by kernel_rfl) ?_ _
      have hbtw2 := hbr.trans (hbelg2.mono hbr.size)
      clear hEg2 hBg2 hTg2 hbg2 hbelg2 hS
      have hgr2 : g < w2.heap.size := Nat.lt_of_lt_of_le hg hbtw2.size
      go_wp2_with fail
      refine wp_region_held_drew (S := fun W => TabAt W g p) (by kernel_rfl) (show TabAt w2.drew g p from hSg2) (fun hS => ?_)
      refine wpAnyH_take (i := 0) (v := .pointer (some ⟨g, 0, none⟩)) rfl (by kernel_rfl) (by kernel_rfl) (by kernel_rfl) (fun _ _ _ h => h) (Or.inl ⟨by rfl, fun w _ => by rfl⟩) hS ?_
      refine wpAnyH_take (i := 1) (v := .pointer (some ⟨g, 0, none⟩)) rfl (by kernel_rfl) (by kernel_rfl) (by kernel_rfl) (fun _ _ _ h => h) (Or.inl ⟨by rfl, fun w _ => by rfl⟩) hS ?_
      refine wpAnyH_take (i := 2) (v := .agg (tabArr p)) rfl (by kernel_rfl) (by kernel_rfl) (by kernel_rfl) (fun _ _ _ h => h) (Or.inl ⟨by rfl, fun w hw => exec_load_cells 56 _ rfl g 0 rfl (tabArr p) _ hw.arr Try.underlying56 rfl (by rw [tabArr_size]; exact info_table)⟩) hS ?_
      refine wpAnyH_ready (rs := [3]) (by kernel_rfl) (by simp) ?_
      refine AllReadyH.cons (o := _) rfl ?_ AllReadyH.nil
      intro K' hK'
      go_simp
      refine (iso_any _).mono ?_
      rintro e w3 ⟨g3, csg3, rfl, hBg3, hsg3, hTg3, hbg3, hgg3⟩
      clear hsg3
      have hbelg3 : Below w2.heap.size w2 w3 := ((Below.refl w2.heap.size w2).drew).trans hbg3
      have hSg3 : TabAt w3 g p := hSg2.below hbelg3 hgr2
      have hEg3 : TabAt w3 g3 iso := tabs_tab hBg3 hTg3
      refine hK'.out _ _ hSg3 (fun hS => ?_)
      clear hK' K'
      refine wpAnyH_take (i := 4) (v := .pointer (some ⟨g3, 0, none⟩)) rfl (by kernel_rfl) (by kernel_rfl) (by kernel_rfl) (fun _ _ _ h => h) (Or.inl ⟨by rfl, fun w _ => by rfl⟩) hS ?_
      refine wpAnyH_take (i := 5) (v := .pointer (some ⟨g3, 0, none⟩)) rfl (by kernel_rfl) (by kernel_rfl) (by kernel_rfl) (fun _ _ _ h => h) (Or.inl ⟨by rfl, fun w _ => by rfl⟩) hS ?_
      refine wpAnyH_ready (rs := [6]) (by kernel_rfl) (by simp) ?_
      refine AllReadyH.cons (o := _) rfl ?_ AllReadyH.nil
      intro K' hK'
      refine (if_pos (by rfl)).mpr ?_
      refine wp_load_cells 56 _ rfl g3 0 rfl (tabArr iso) _ hEg3.arr Try.underlying56 rfl (by rw [tabArr_size]; exact info_table) ?_
      refine hK'.out _ _ hSg3 (fun hS => ?_)
      clear hK' K'
      refine wpAnyH_take (i := 7) (v := .bool false) rfl (by kernel_rfl) (by kernel_rfl) (by kernel_rfl) (fun _ _ _ h => h) (Or.inl ⟨by rfl, fun w _ => exec_eq _ _ p iso false hiso rfl rfl rfl⟩) hS ?_
      refine wpAnyH_done (by kernel_rfl) ?_ _
      have hbtw3 := hbtw2.trans (hbelg3.mono hbtw2.size)
      clear hEg3 hBg3 hTg3 hbg3 hbelg3 hS
      by_cases h2k : 2048 ≤ n'
      · have hd3 : decide ((2048 : Int) ≤ (n' : Int)) = true := decide_eq_true (by omega)
        go_wp2_with fail
        refine (slicing_any p g w3 hSg3 (Nat.lt_of_lt_of_le hg hbtw3.size)).mono ?_
        rintro e w5 ⟨gh, csh, rfl, hBh, hsh, hTh, hbh, hgh⟩
        clear hsh
        have hTC : TabCells w5 gh p := tabCells_of hBh hTh
        have hb5 := hbtw3.trans (hbh.mono hbtw3.size)
        have hA5 := hA.below hb5 hB
        clear hBh hTh hbh hgh
        go_wp2_with fail
        go_loopw [0, 2] (fun r s wr => ∃ m2 n2 cap2 q : Nat, Hid (n2 + m2 = n) ∧ 1 ≤ n2 ∧ Hid (cap2 + m2 = cap) ∧ wr = w5.drewN q ∧ s = .slice (some ⟨b, off + m2, none⟩) n2 cap2 ∧ r = .int .u64 (u (Crc.crcReg p (~~~ c) (l.take m2)))) (fun _ s _ => sliceLen s)
        case atStart => exact ⟨m, n', cap', 0, Hm, by omega, Hcap, rfl, rfl, rfl⟩
        case round =>
          obtain ⟨m2, n2, cap2, q, Hm2, hn1, Hcap2, rfl, rfl, rfl⟩ := hrel
          have hA' : Bytes (w5.drewN q) B (some ⟨b, off + m2, none⟩) (l.drop m2) := hA5.tail m2
          have Hl : Hid (n2 = (l.drop m2).length) := by
            show n2 = _
            rw [List.length_drop, ← Hn.out, ← Hm2.out]; omega
          have hnn : n2 ≤ cap2 := by have := Hm2.out; have := Hcap2.out; omega
          have hnm : n2 ≤ 140737488355328 := by have := Hm2.out; omega
          by_cases hgt : 8 < n2
          · go_wp2_with fail
            refine (le64_any _ (l.drop m2) _ _ B _ Hl.out (by omega) hA').mono ?_
            rintro e w' ⟨rfl, rfl⟩
            clear hA'
            obtain ⟨x, hx⟩ : ∃ x, x = Crc.crcReg p (~~~ c) (l.take m2) ^^^ Crc.le 64 ((l.drop m2).take 8) := ⟨_, rfl⟩
            go_wp2_with fail
            rw [← hx]
            have Hx : Hid (x = Crc.crcReg p (~~~ c) (l.take m2) ^^^ Crc.le 64 ((l.drop m2).take 8)) := hx
            clear hx
            have lo0 := u_nonneg (x >>> 56)
            have hi0 : u (x >>> 56) < 256 := top_lt x
            have ht0 : w5.cell? ⟨gh, (u (x >>> 56)).toNat, none⟩ = some (.int .u64 (u (Crc.T p 0 (u (x >>> 56)).toNat))) := by have := hTC 0 (u (x >>> 56)).toNat (by omega) (by omega); simpa using this
            have lo1 := u_nonneg (x >>> 48 &&& 255#64)
            have hi1 : u (x >>> 48 &&& 255#64) < 256 := low_lt _
            have ht1 : w5.cell? ⟨gh, 256 + (u (x >>> 48 &&& 255#64)).toNat, none⟩ = some (.int .u64 (u (Crc.T p 1 (u (x >>> 48 &&& 255#64)).toNat))) := by have := hTC 1 (u (x >>> 48 &&& 255#64)).toNat (by omega) (by omega); simpa using this
            have lo2 := u_nonneg (x >>> 40 &&& 255#64)
            have hi2 : u (x >>> 40 &&& 255#64) < 256 := low_lt _
            have ht2 : w5.cell? ⟨gh, 512 + (u (x >>> 40 &&& 255#64)).toNat, none⟩ = some (.int .u64 (u (Crc.T p 2 (u (x >>> 40 &&& 255#64)).toNat))) := by have := hTC 2 (u (x >>> 40 &&& 255#64)).toNat (by omega) (by omega); simpa using this
            have lo3 := u_nonneg (x >>> 32 &&& 255#64)
            have hi3 : u (x >>> 32 &&& 255#64) < 256 := low_lt _
            have ht3 : w5.cell? ⟨gh, 768 + (u (x >>> 32 &&& 255#64)).toNat, none⟩ = some (.int .u64 (u (Crc.T p 3 (u (x >>> 32 &&& 255#64)).toNat))) := by have := hTC 3 (u (x >>> 32 &&& 255#64)).toNat (by omega) (by omega); simpa using this
            have lo4 := u_nonneg (x >>> 24 &&& 255#64)
            have hi4 : u (x >>> 24 &&& 255#64) < 256 := low_lt _
            have ht4 : w5.cell? ⟨gh, 1024 + (u (x >>> 24 &&& 255#64)).toNat, none⟩ = some (.int .u64 (u (Crc.T p 4 (u (x >>> 24 &&& 255#64)).toNat))) := by have := hTC 4 (u (x >>> 24 &&& 255#64)).toNat (by omega) (by omega); simpa using this
            have lo5 := u_nonneg (x >>> 16 &&& 255#64)
            have hi5 : u (x >>> 16 &&& 255#64) < 256 := low_lt _
            have ht5 : w5.cell? ⟨gh, 1280 + (u (x >>> 16 &&& 255#64)).toNat, none⟩ = some (.int .u64 (u (Crc.T p 5 (u (x >>> 16 &&& 255#64)).toNat))) := by have := hTC 5 (u (x >>> 16 &&& 255#64)).toNat (by omega) (by omega); simpa using this
            have lo6 := u_nonneg (x >>> 8 &&& 255#64)
            have hi6 : u (x >>> 8 &&& 255#64) < 256 := low_lt _
            have ht6 : w5.cell? ⟨gh, 1536 + (u (x >>> 8 &&& 255#64)).toNat, none⟩ = some (.int .u64 (u (Crc.T p 6 (u (x >>> 8 &&& 255#64)).toNat))) := by have := hTC 6 (u (x >>> 8 &&& 255#64)).toNat (by omega) (by omega); simpa using this
            have lo7 := u_nonneg (x &&& 255#64)
            have hi7 : u (x &&& 255#64) < 256 := low_lt _
            have ht7 : w5.cell? ⟨gh, 1792 + (u (x &&& 255#64)).toNat, none⟩ = some (.int .u64 (u (Crc.T p 7 (u (x &&& 255#64)).toNat))) := by have := hTC 7 (u (x &&& 255#64)).toNat (by omega) (by omega); simpa using this
            go_quiet (fail)
            go_wp2_with fail
            go_roundw
            case rel =>
              have e1 := slice64 p (Crc.crcReg p (~~~ c) (l.take m2)) ((l.drop m2).take 8) (by rw [List.length_take, ← Hl.out]; omega) x Hx.out
              rw [← Crc.crcReg_append, ← drop8 l m2] at e1
              rw [e1]
              refine ⟨m2 + 8, n2 - 8, cap2 - 8, q + nq, ?_, by omega, ?_, ?_, rfl, rfl⟩
              · have := Hm2.out; show _ = _; omega
              · have := Hcap2.out; show _ = _; omega
              · rfl
            case measure => simp [sliceLen]; omega
          · go_wp2_with fail
            go_roundw
            case rel => exact ⟨m2, n2, cap2, Hm2, Hcap2, hb5.trans (below_drewN _ _ _), rfl, rfl⟩
            case measure => simp [sliceLen]; omega
      · have hd3 : decide ((2048 : Int) ≤ (n' : Int)) = false := decide_eq_false (by omega)
        have Hl : Hid (n' = (l.drop m).length) := by
          show n' = _
          rw [List.length_drop, ← Hn.out, ← Hm.out]; omega
        have hAm : Bytes w3 B (some ⟨b, off + m, none⟩) (l.drop m) := (hA.below hbtw3 hB).tail m
        have HTF : Hid (TabAt w3 g p) := hSg3
        have hbF := hbtw3
        have hnm : n' ≤ 140737488355328 := by have := Hm.out; omega
        go_wp2_with fail
        go_loop [0, 9, 118] (fun r _ i => ∃ k : Nat, k ≤ n' ∧ i = .int .i64 k ∧ r = .int .u64 (u (Crc.crcReg p (~~~ c) (l.take (m + k))))) (fun _ _ i => n' - (intOf i).toNat)
        case atStart => exact ⟨0, by omega, rfl, rfl⟩
        case round =>
          obtain ⟨k, hk, rfl, rfl⟩ := hrel
          by_cases hlt : k < n'
          · obtain ⟨b9, off9, he9, _, hc⟩ := hAm (by rw [← Hl.out]; omega)
            injection he9 with he9; injection he9 with he91 he92 _; subst he91; subst he92
            have hck := hc k (by rw [← Hl.out]; exact hlt)
            rw [nth_drop] at hck
            have hlo := u_nonneg ((Crc.crcReg p (~~~ c) (l.take (m + k))).setWidth 8 ^^^ nth l (m + k))
            have hhi := byte_lt ((Crc.crcReg p (~~~ c) (l.take (m + k))).setWidth 8 ^^^ nth l (m + k))
            have hct := HTF.out _ (byte_lt' ((Crc.crcReg p (~~~ c) (l.take (m + k))).setWidth 8 ^^^ nth l (m + k)))
            clear hc hAm
            go_wp2_with fail
            go_round
            case rel => exact ⟨k + 1, by omega, by go_num, by rw [upd_step p c l (m + k) (by rw [← Hn.out, ← Hm.out]; omega)]; rfl⟩
            case measure => simp [intOf]; omega
          · obtain rfl : k = n' := by omega
            go_wp2_with fail
            go_ret
            exact ⟨ret_u (sum_done p c l (m + k) (by rw [← Hn.out, ← Hm.out]; omega)), hbF⟩
    · have hd : decide ((64 : Int) ≤ (n' : Int)) = false := decide_eq_false (by omega)
      have Hl : Hid (n' = (l.drop m).length) := by
        show n' = _
        rw [List.length_drop, ← Hn.out, ← Hm.out]; omega
      have hAm : Bytes wr B (some ⟨b, off + m, none⟩) (l.drop m) := (hA.below hbr hB).tail m
      have HTF : Hid (TabAt wr g p) := hT'
      have hbF := hbr
      have hnm : n' ≤ 140737488355328 := by have := Hm.out; omega
      go_wp2_with fail
      go_loop [0, 9, 118] (fun r _ i => ∃ k : Nat, k ≤ n' ∧ i = .int .i64 k ∧ r = .int .u64 (u (Crc.crcReg p (~~~ c) (l.take (m + k))))) (fun _ _ i => n' - (intOf i).toNat)
      case atStart => exact ⟨0, by omega, rfl, rfl⟩
      case round =>
        obtain ⟨k, hk, rfl, rfl⟩ := hrel
        by_cases hlt : k < n'
        · obtain ⟨b9, off9, he9, _, hc⟩ := hAm (by rw [← Hl.out]; omega)
          injection he9 with he9; injection he9 with he91 he92 _; subst he91; subst he92
          have hck := hc k (by rw [← Hl.out]; exact hlt)
          rw [nth_drop] at hck
          have hlo := u_nonneg ((Crc.crcReg p (~~~ c) (l.take (m + k))).setWidth 8 ^^^ nth l (m + k))
          have hhi := byte_lt ((Crc.crcReg p (~~~ c) (l.take (m + k))).setWidth 8 ^^^ nth l (m + k))
          have hct := HTF.out _ (byte_lt' ((Crc.crcReg p (~~~ c) (l.take (m + k))).setWidth 8 ^^^ nth l (m + k)))
          clear hc hAm
          go_wp2_with fail
          go_round
          case rel => exact ⟨k + 1, by omega, by go_num, by rw [upd_step p c l (m + k) (by rw [← Hn.out, ← Hm.out]; omega)]; rfl⟩
          case measure => simp [intOf]; omega
        · obtain rfl : k = n' := by omega
          go_wp2_with fail
          go_ret
          exact ⟨ret_u (sum_done p c l (m + k) (by rw [← Hn.out, ← Hm.out]; omega)), hbF⟩
end Go.Proofs.Ytocolnikidfbnaa
