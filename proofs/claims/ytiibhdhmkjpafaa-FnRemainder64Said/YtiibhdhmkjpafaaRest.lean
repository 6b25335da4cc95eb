/- The division of bits: what Rest returns. -/
import Derived.Test.YtiibhdhmkjpafaaChecked
import Derived.Test.YtiibhdhmkjpafaaBits
import Derived.WalkKit
import Derived.LoopTactic
import Derived.IntWalk
import Derived.RegionTactic
import Derived.BigRegion
namespace Go.Proofs.Ytiibhdhmkjpafaa
open Go.RowKit
/-- what Rest leaves -/
def RestPost (r : List Bool) (n : Nat) (w : World) (e : Ending) (w' : World) : Prop := ∃ A c, e = .returned (.slice A n c) ∧ Cells w' w'.heap.size A (r.map boolV) ∧ Below w.heap.size w w'
set_option maxRecDepth 100000 in
set_option maxHeartbeats 1600000 in
theorem rest_any (a a2 : Option Addr) (xs d : List Bool) (N n m ca cb : Nat) (hN : N = xs.length) (hnd : n + 1 = d.length) (hm : N = m + n) (hn1 : 1 ≤ n) (hn2 : n ≤ 64) (hmax : N ≤ 34359738368) (w : World) (B : Nat) (hA : Cells w B a (xs.map boolV)) (hD : Cells w B a2 (d.map boolV)) (hBB : B ≤ w.heap.size) :
    Calls Try.prog 17 #[.slice a N ca, .slice a2 (n + 1) cb] w (RestPost ((restAt xs d m).drop m) n w) := by
  obtain ⟨A1, c1, w1, hr1, hown1, hb1, hc1⟩ := copy_bools w a xs N ca B hN hA hBB (by omega)
  rcases hown1.2 with ⟨_, h0⟩ | ⟨g, cap, cur, he, hgb, _, _, _, _, _⟩
  · omega
  injection he with he1 _ he3
  subst he1; subst he3
  have HN : Hid (N = xs.length) := hN
  have Hd : Hid (n + 1 = d.length) := hnd
  have Hm : Hid (N = m + n) := hm
  have hmN : m ≤ N := by omega
  have hmn : (m : Int) + ((n : Int) + 1) ≤ (N : Int) + 1 := by omega
  clear hN hnd hm
  obtain ⟨b2, o2, rfl, hl2, hcd⟩ := hD (by rw [List.length_map, ← Hd.out]; omega)
  have HD : Hid (∀ k, k < n + 1 → w.cell? ⟨b2, o2 + k, none⟩ = some (.bool (d.getD k false))) := fun k hk => hcd k _ (bool_some (by rw [← Hd.out]; exact hk))
  clear hD hcd hA
  go_enter Try.func17, Try.ntmps17
  go_wp2_with (at_builtin; refine wpList_run_append rfl _ _ _ _ rfl rfl rfl hr1 ?_)
  clear hr1
  go_loopw [6, 7] (fun i _ wr => ∃ k : Nat, k ≤ m ∧ i = .int .i64 k ∧ wr.ownsRow w.heap.size 4 1 (.slice (some ⟨g, 0, none⟩) N c1) N ((restAt xs d k).map boolV) ∧ Below w.heap.size w wr) (fun i _ _ => m - (intOf i).toNat)
  case atStart => exact ⟨0, by omega, rfl, hown1, hb1⟩
  case round =>
    clear hown1 hb1
    obtain ⟨i, hi, rfl, hown, hbr⟩ := hrel
    by_cases hlt : i < m
    · have hd : decide ((i : Int) + ((n : Int) + 1) ≤ (N : Int)) = true := decide_eq_true (by have := Hm.out; omega)
      have hiN : i < N := by omega
      have hcell : wr.cell? ⟨g, i, none⟩ = some (.bool ((restAt xs d i).getD i false)) := by
        rw [hown.cellAt i (by omega)]
        exact bool_some (by rw [restAt_length, ← HN.out]; exact hiN)
      cases hx : (restAt xs d i).getD i false with
      | false =>
        rw [hx] at hcell
        have e1 : restAt xs d (i + 1) = restAt xs d i := by rw [restAt, if_neg (by rw [hx]; simp)]
        rw [← e1] at hown
        clear hx e1
        go_wp2_with fail
        go_roundw
        case rel => exact ⟨i + 1, by omega, by go_num, hown, hbr⟩
        case measure => simp [intOf]; omega
      | true =>
        rw [hx] at hcell
        have E1 : Hid (restAt xs d (i + 1) = xorTo (restAt xs d i) d i (n + 1)) := by show _ = _; rw [restAt, if_pos hx, ← Hd.out]
        clear hx
        obtain ⟨r, Hr⟩ : ∃ r, Hid (r = restAt xs d i) := ⟨_, rfl⟩
        rw [← Hr.out] at hown E1
        have Hrl : Hid (r.length = N) := by show _ = _; rw [Hr.out, restAt_length]; exact HN.out.symm
        go_wp2_with fail
        obtain ⟨wo, rfl⟩ : ∃ wo : World, wo = wr := ⟨_, rfl⟩
        go_loopw [7] (fun j wr => ∃ k : Nat, k ≤ n + 1 ∧ j = .int .i64 k ∧ wr.ownsRow w.heap.size 4 1 (.slice (some ⟨g, 0, none⟩) N c1) N ((xorTo r d i k).map boolV) ∧ Below w.heap.size w wr) (fun j _ => n + 1 - (intOf j).toNat)
        case atStart => exact ⟨0, by omega, rfl, hown, hbr⟩
        case round =>
          clear hown hbr hcell
          obtain ⟨k, hk, rfl, hown, hbr⟩ := hrel
          by_cases hlt2 : k < n + 1
          · have hd2 : decide ((k : Int) < (n : Int) + 1) = true := decide_eq_true (by omega)
            have hlt3 : (k : Int) < (n : Int) + 1 := by omega
            obtain ⟨x, Hx⟩ : ∃ x, Hid (x = (xorTo r d i k).getD (i + k) false) := ⟨_, rfl⟩
            obtain ⟨y, Hy⟩ : ∃ y, Hid (y = d.getD k false) := ⟨_, rfl⟩
            have hikN : i + k < N := by have := Hm.out; omega
            have hcx : wr.cell? ⟨g, i + k, none⟩ = some (.bool x) := by
              rw [hown.cellAt (i + k) (by omega), Hx.out]
              exact bool_some (by rw [xorTo_length, Hrl.out]; exact hikN)
            have hfree := hown.frozenAt (i + k)
            have hcy : wr.cell? ⟨b2, o2 + k, none⟩ = some (.bool y) := by
              rw [hbr.cell (p := ⟨b2, o2 + k, none⟩) (by show b2 < _; omega), Hy.out]; exact HD.out k hlt2
            have s1 : IntKind.i64.wrap ((i : Int) + (k : Int)) = (i : Int) + (k : Int) := IntWalk.i64_in _ (by omega)
            have s2 : (0 : Int) ≤ (i : Int) + (k : Int) := by omega
            have s3 : ((i : Int) + (k : Int)).toNat = i + k := by omega
            have s4 : (i : Int) + (k : Int) < (N : Int) := by omega
            have s5 : (0 : Int) ≤ (k : Int) := by omega
            go_wp2_with fail
            go_region
            have R1 := (hown.stored (i + k) (.bool (!(x == y)))).1
            have R2 : ((xorTo r d i k).map boolV).set (i + k) (.bool (!(x == y))) = (xorTo r d i (k + 1)).map boolV := by
              rw [xorTo, List.map_set, ← Hx.out, ← Hy.out]; rfl
            rw [R2] at R1
            clear hown hcx hcy hfree s1 s2 s3 s4 s5
            go_wp2_with fail
            go_roundw
            case rel => exact ⟨k + 1, by omega, by go_num, R1.drew, hbr.trans (((Below.refl _ _).setCell (p := ⟨g, i + k, none⟩) hgb _).drew)⟩
            case measure => simp [intOf]; omega
          · obtain rfl : k = n + 1 := by omega
            rw [← E1.out] at hown
            go_wp2_with fail
            go_roundw
            case rel => exact ⟨i + 1, by omega, by go_num, hown, hbr⟩
            case measure => simp [intOf]; omega
    · obtain rfl : i = m := by omega
      have hd : decide ((i : Int) + ((n : Int) + 1) ≤ (N : Int)) = false := decide_eq_false (by have := Hm.out; omega)
      have v1 : ((N : Int) - ((n : Int) + 1) + 1) = (i : Int) := by have := Hm.out; omega
      have v2 : N - i = n := by have := Hm.out; omega
      have v3 : ¬ c1 = i := by have := Hm.out; omega
      have v4 : (i : Int) ≤ (N : Int) := by omega
      go_wp2_with fail
      go_ret
      refine ⟨some ⟨g, i, none⟩, c1 - i, rfl, fun _ => ⟨g, i, rfl, ?_, fun j v hv => ?_⟩, hbr⟩
      · exact (hown.lt g rfl).2
      · rw [List.map_drop, List.getElem?_drop] at hv
        have hj := (List.getElem?_eq_some_iff.1 hv).1
        rw [hown.cellAt (i + j) (by rw [List.length_map, restAt_length, ← HN.out] at hj; omega)]
        exact hv
end Go.Proofs.Ytiibhdhmkjpafaa
