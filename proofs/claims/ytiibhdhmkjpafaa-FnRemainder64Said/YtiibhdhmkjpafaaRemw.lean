/- What Remainder returns: the sum. -/
import Derived.Test.YtiibhdhmkjpafaaChecked
import Derived.Test.YtiibhdhmkjpafaaRem
import Derived.WalkKit
import Derived.LoopTactic
import Derived.IntWalk
namespace Go.Proofs.Ytiibhdhmkjpafaa
open Go.RowKit
theorem wpow (k : Nat) : IntKind.u64.wrap ((2 : Int) ^ k) = u (1#64 <<< k) := by
  rw [← shl_u (1#64) k, show u (1#64) = 1 from rfl, Int.one_mul]
  simp [IntKind.wrap, IntKind.bits, IntKind.signed]
/-- what Remainder leaves -/
def NumPost (r : BitVec 64) (w : World) (e : Ending) (w' : World) : Prop := e = .returned (.int .u64 (u r)) ∧ Below w.heap.size w w'
set_option maxRecDepth 100000 in
set_option maxHeartbeats 1600000 in
theorem remainder_any (p : BitVec 64) (a : Option Addr) (l : List (BitVec 8)) (n ca : Nat) (hn : n = l.length) (hm : n ≤ 2147483647) (w : World) (B : Nat) (hA : Bytes w B a l) (hBB : B ≤ w.heap.size) :
    Calls Try.prog 12 #[.int .u64 (u (p.setWidth 64)), .int .i64 64, .slice a n ca] w (NumPost ((Crc.sum p 0#64 l).setWidth 64) w) := by
  have Hn : Hid (n = l.length) := hn
  clear hn
  obtain ⟨i0, hi, hz0, hz1, hz2⟩ := info_parts info_bool
  go_enter Try.func12, Try.ntmps12
  go_wp2_with fail
  refine (bits_any a l n ca Hn.out hm w B hA hBB).mono ?_
  rintro e w1 ⟨A1, c1, rfl, hown1, hb1⟩
  obtain ⟨A2, c2, w2, hr2, hown2, _, hb2, hc2, _⟩ := run_app_zeros (P := Try.prog) w1 w.heap.size 41 3 41 4 i0 (.bool false) 1 Try.underlying41 Try.underlying3 hi hz0 hz1 hz2 rfl rfl _ (8 * n) _ hown1 64 (by omega) (by unfold maxLen; omega) (by omega) hb1.size
  obtain ⟨xs, Hxs⟩ : ∃ xs, Hid (xs = Crc.bitsOf l ++ List.replicate 64 false) := ⟨_, rfl⟩
  have e1 : (Crc.bitsOf l).map boolV ++ List.replicate 64 (.bool false) = (turnAt xs 0).map boolV := by
    rw [Hxs.out]; simp [turnAt, boolV]
  rw [e1] at hown2
  clear e1 hown1 hi hz0 hz1 hz2
  have hbb := hb1.trans hb2
  have Hxl : Hid (xs.length = 8 * n + 64) := by show _ = _; rw [Hxs.out, List.length_append, List.length_replicate, Crc.bitsOf_length, ← Hn.out]
  rcases hown2.2 with ⟨_, h0⟩ | ⟨g, cap, cur, he, hgb, _, _, _, _, _⟩
  · omega
  injection he with he1 _ he3
  subst he1; subst he3
  go_wp2_with (at_builtin; refine wpList_run_append rfl _ _ _ _ rfl rfl rfl hr2 ?_)
  clear hr2 hb1 hb2
  go_loopw [8] (fun i wr => ∃ k : Nat, k ≤ 64 ∧ i = .int .i64 k ∧ wr.ownsRow w.heap.size 4 1 (.slice (some ⟨g, 0, none⟩) (8 * n + 64) c2) (8 * n + 64) ((turnAt xs k).map boolV) ∧ Below w.heap.size w wr) (fun i _ => 64 - (intOf i).toNat)
  case atStart => exact ⟨0, by omega, rfl, hown2, hbb⟩
  case round =>
    clear hown2 hbb
    obtain ⟨k, hk, rfl, hown, hbr⟩ := hrel
    by_cases hlt : k < 64
    · have hd : decide ((k : Int) < 64) = true := decide_eq_true (by omega)
      obtain ⟨x, Hx⟩ : ∃ x, Hid (x = (turnAt xs k).getD k false) := ⟨_, rfl⟩
      have hcx : wr.cell? ⟨g, k, none⟩ = some (.bool x) := by
        rw [hown.cellAt k (by omega), Hx.out]
        exact bool_some (by rw [turnAt_length, Hxl.out]; omega)
      have hfree := hown.frozenAt k
      go_wp2_with fail
      have R1 := (hown.stored k (.bool (!x))).1
      have R2 : ((turnAt xs k).map boolV).set k (.bool (!x)) = (turnAt xs (k + 1)).map boolV := by
        rw [← turnAt_succ xs k (by rw [Hxl.out]; omega), List.map_set, ← Hx.out]; rfl
      rw [R2] at R1
      clear hown hcx hfree
      go_roundw
      case rel => exact ⟨k + 1, by omega, by go_num, R1, hbr.setCell (p := ⟨g, k, none⟩) hgb _⟩
      case measure => simp [intOf]; omega
    · obtain rfl : k = 64 := by omega
      go_wp2_with fail
      refine (divisor_any (p.setWidth 64) 64 (by omega) wr).mono ?_
      rintro e w3 ⟨A3, c3, rfl, hown3, hb3⟩
      have hown4 := owns_below hown hb3 (Nat.le_refl _)
      have hbc := hbr.trans (hb3.mono hbr.size)
      obtain ⟨_, _, he4, _, _, hcell4⟩ := ownsRow_form hown4
      injection he4 with he41 _ he43; subst he41; subst he43
      obtain ⟨_, _, he3, _, _, hcell3⟩ := ownsRow_form hown3
      injection he3 with he31 _ he33; subst he31; subst he33
      clear hown hown3 hown4 hbr
      go_wp2_with fail
      refine (rest_any (some ⟨g, 0, none⟩) A3 (turnAt xs 64) (divAt (p.setWidth 64) 64) (8 * n + 64) 64 (8 * n) c2 c3 (by rw [turnAt_length, Hxl.out]) (by rw [divAt_length]) rfl (by omega) (by omega) (by omega) w3 w3.heap.size hcell4 hcell3 (Nat.le_refl _)).mono ?_
      rintro e w4 ⟨A5, c5, rfl, hcell5, hb5⟩
      have hbd := hbc.trans (hb5.mono hbc.size)
      obtain ⟨r, Hr⟩ : ∃ r, Hid (r = (restAt (turnAt xs 64) (divAt (p.setWidth 64) 64) (8 * n)).drop (8 * n)) := ⟨_, rfl⟩
      rw [← Hr.out] at hcell5
      have Hrl : Hid (r.length = 64) := by show _ = _; rw [Hr.out, List.length_drop, restAt_length, turnAt_length, Hxl.out]; omega
      have Hout : Hid (outAt r 64 = (Crc.sum p 0#64 l).setWidth 64) := out_law p l r (fun j hj => by rw [Hr.out, Hxs.out, Hn.out]; exact rem_law p l j hj)
      obtain ⟨b5, o5, rfl, _, hc5⟩ := hcell5 (by rw [List.length_map, Hrl.out]; omega)
      have HC : Hid (∀ j, j < 64 → w4.cell? ⟨b5, o5 + j, none⟩ = some (.bool (r.getD j false))) := fun j hj => hc5 j _ (bool_some (by rw [Hrl.out]; exact hj))
      clear hcell5 hc5 hcell3 hcell4 hb3 hb5 hbc Hr
      go_wp2_with fail
      go_loop [10, 11] (fun o i => ∃ k : Nat, k ≤ 64 ∧ i = .int .i64 k ∧ o = .int .u64 (u (outAt r k))) (fun _ i => 64 - (intOf i).toNat)
      case atStart => exact ⟨0, by omega, rfl, rfl⟩
      case round =>
        obtain ⟨k, hk, rfl, rfl⟩ := hrel
        by_cases hlt : k < 64
        · have hd : decide ((k : Int) < 64) = true := decide_eq_true (by omega)
          have hmin : min k 64 = k := by omega
          have hck := HC.out k hlt
          cases hx : r.getD k false with
          | true =>
            rw [hx] at hck
            have E : Hid (outAt r (k + 1) = outAt r k) := by show _ = _; rw [outAt, if_pos hx]
            clear hx
            go_wp2_with fail
            go_round
            case rel => exact ⟨k + 1, by omega, by go_num, by rw [E.out]⟩
            case measure => simp [intOf]; omega
          | false =>
            rw [hx] at hck
            obtain ⟨y, Hy⟩ : ∃ y, Hid (y = 1#64 <<< k) := ⟨_, rfl⟩
            have E : Hid (outAt r (k + 1) = outAt r k ||| y) := by show _ = _; rw [outAt, if_neg (by rw [hx]; simp), Hy.out]
            clear hx
            go_wp2_with fail
            go_round
            case rel => exact ⟨k + 1, by omega, by go_num, by rw [E.out, ← or64, Hy.out, wpow]⟩
            case measure => simp [intOf]; omega
        · obtain rfl : k = 64 := by omega
          go_wp2_with fail
          go_ret
          exact ⟨ret_u Hout.out, hbd⟩
end Go.Proofs.Ytiibhdhmkjpafaa
