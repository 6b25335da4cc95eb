/- UnmarshalBinary: which states are taken over. -/
import Derived.Test.YtocolnikidfbnaaChecked
import Derived.Test.YtocolnikidfbnaaMar
import Derived.WalkKit
import Derived.LoopTactic
import Derived.RegionTactic
import Derived.Deep.RegionWith
import Derived.Laws.BytesArg
namespace Go.Proofs.Ytocolnikidfbnaa
open Go.RowKit
/-- bytes as a string, closed to the walk -/
def strOf (l : List (BitVec 8)) : ByteArray := strOfNums (l.map u)
theorem strOf_list (l : List (BitVec 8)) : (strOf l).toList = l.map fun b => UInt8.ofNat b.toNat := by
  rw [ByteArray.toList_eq, strOf, strOfNums_data, List.map_map]
  rfl
theorem strOf_inj (l m : List (BitVec 8)) : (strOf l).toList = (strOf m).toList ↔ l = m := by
  rw [strOf_list, strOf_list]
  refine List.map_inj_right (fun a b hab => ?_)
  have := congrArg UInt8.toNat hab
  apply BitVec.eq_of_toNat_eq
  have ha := a.isLt
  have hb := b.isLt
  simpa [Nat.mod_eq_of_lt ha, Nat.mod_eq_of_lt hb] using this
theorem strOf_beq (l m : List (BitVec 8)) : ((strOf l).toList == (strOf m).toList) = (l == m) := by
  rw [Bool.eq_iff_iff, beq_iff_eq, beq_iff_eq, strOf_inj]
theorem conv_bytes (w : World) (B : Nat) (A : Option Addr) (l : List (BitVec 8)) (n cap : Nat) (hn : n = l.length) (hp : 0 < n) (hA : Bytes w B A l) :
    (convert 25 9 (.slice A n cap)).run Try.prog w = .ok (.string (strOf l)) w := by
  obtain ⟨b, off, rfl, _, hc⟩ := hA (by omega)
  refine run_convert_bytes_arg w 25 5 Try.underlying25 Try.underlying5 b off n cap (l.map u) (by simp [hn]) (fun i hi => ?_) 9 Try.underlying9
  rw [hc i (by omega)]
  have hi' : i < l.length := by omega
  simp [nth, hi']
theorem Bytes.head {w : World} {B : Nat} {A : Option Addr} {l : List (BitVec 8)} (k : Nat) (h : Bytes w B A l) : Bytes w B A (l.take k) := by
  intro hl
  simp only [List.length_take] at hl
  obtain ⟨b, off, rfl, hlt, hc⟩ := h (by omega)
  refine ⟨b, off, rfl, hlt, fun j hj => ?_⟩
  simp only [List.length_take] at hj
  rw [hc j (by omega)]
  have h1 : j < k := by omega
  have h2 : j < l.length := by omega
  congr 3
  simp [nth, h1]
theorem magic_list : (strOf magic).toList = [99, 114, 99, 2] := by rw [strOf_list]; rfl
/-- an error is told -/
def ErrPost (w : World) (e : Ending) (w' : World) : Prop := ∃ t v, e = .returned (.iface t v) ∧ Below w.heap.size w w'
set_option maxRecDepth 100000 in
set_option maxHeartbeats 1000000 in
theorem unmarshalBinary_no (x : Value) (A : Option Addr) (l : List (BitVec 8)) (n cap B : Nat) (w : World) (hn : n = l.length) (h20 : n < 20 ∨ 20 < n) (hcap : n ≤ cap) (hA : Bytes w B A l) :
    Calls Try.prog 26 #[x, .slice A n cap] w (ErrPost w) := by
  by_cases h4 : n < 4
  · clear hA hn
    go_enter Try.func26, Try.ntmps26
    go_wp2_with fail
    refine (errNew_any _ _).mono ?_
    rintro e w1 ⟨t, v, rfl, hb⟩
    go_wp2_with fail
    go_ret
    exact ⟨t, v, rfl, hb⟩
  · have hcv := conv_bytes w B A (l.take 4) 4 cap (by simp; omega) (by omega) (hA.head 4)
    have hne : ((n : Int) == 20) = false := by rw [beq_eq_false_iff_ne]; omega
    have hnb : ((n : Int) != 20) = true := by rw [bne_iff_ne]; omega
    clear hA hn
    by_cases hs : l.take 4 = magic
    · have hs1 : ((strOf (l.take 4)).toList == [99, 114, 99, 2]) = true := by rw [← magic_list, strOf_beq]; simpa using hs
      clear hs
      go_enter Try.func26, Try.ntmps26
      go_wp2_with fail
      refine (errNew_any _ _).mono ?_
      rintro e w1 ⟨t, v, rfl, hb⟩
      go_wp2_with fail
      go_ret
      exact ⟨t, v, rfl, hb⟩
    · have hs1 : ((strOf (l.take 4)).toList == [99, 114, 99, 2]) = false := by rw [← magic_list, strOf_beq]; simpa using hs
      clear hs
      go_enter Try.func26, Try.ntmps26
      go_wp2_with fail
      refine (errNew_any _ _).mono ?_
      rintro e w1 ⟨t, v, rfl, hb⟩
      go_wp2_with fail
      go_ret
      exact ⟨t, v, rfl, hb⟩
theorem be_first (x : BitVec 64) (m : List (BitVec 8)) (b off n cap B : Nat) (w : World) (hn : n = 8 + m.length) (hA : Bytes w B (some ⟨b, off, none⟩) (be8 x ++ m)) :
    Calls Try.prog 34 #[.slice (some ⟨b, off, none⟩) n cap] w fun e w' => e = .returned (.int .u64 (u x)) ∧ w = w' := by
  have h := be64_any (some ⟨b, off, none⟩) (be8 x ++ m) n cap B w (by rw [List.length_append, hn]; rfl) (by omega) hA
  rw [beTo_be8] at h
  exact h
theorem bne_u {w : Nat} (x : BitVec w) : (u x != u x) = false := by simp
/-- the state is taken over -/
def OkPost (p c : BitVec 64) (D g : Nat) (w : World) (e : Ending) (w' : World) : Prop := e = .returned Value.nilIface ∧ Dig w' D g p c ∧ Below D w w'
set_option maxRecDepth 100000 in
set_option maxHeartbeats 1000000 in
theorem unmarshalBinary_ok (p c c0 : BitVec 64) (D g b off cap B : Nat) (w : World) (hcap : 20 ≤ cap) (hA : Bytes w B (some ⟨b, off, none⟩) (state p c)) (hB : B ≤ D) (hD : Dig w D g p c0) :
    Calls Try.prog 26 #[.pointer (some ⟨D, 0, none⟩), .slice (some ⟨b, off, none⟩) 20 cap] w (OkPost p c D g w) := by
  have hcv := conv_bytes w B _ ((state p c).take 4) 4 cap (by rw [List.length_take, state_length]; rfl) (by omega) (hA.head 4)
  have hs1 : ((strOf ((state p c).take 4)).toList == [99, 114, 99, 2]) = true := by rw [← magic_list, strOf_beq]; simp [state, magic]
  have h1 := hD.c1
  have HA : Hid (Bytes w B (some ⟨b, off, none⟩) (state p c)) := hA
  have HD : Hid (Dig w D g p c0) := hD
  clear hA hD
  go_enter Try.func26, Try.ntmps26
  go_wp2_with fail
  clear hcv hs1
  go_region_with (first
    | (go_at_call 33; refine (tsum_any p g _ ?_ ?_).mono ?_; (· exact HD.out.2.1); (· exact Nat.lt_trans HD.out.2.2 HD.out.lt); rintro e w1 ⟨rfl, hb⟩; clear h1)
    | (go_at_call 34; refine (be_first (tsum p) (be8 c) b (off + 4) _ _ B _ ?_ ?_).mono ?_; (· rfl); (· exact (HA.out.below (((Below.refl w.heap.size w).drew).trans hb) (by have := HD.out.lt; omega)).tail 4); rintro e w2 ⟨rfl, rfl⟩))
  have hb' : Below w.heap.size w w1 := ((Below.refl w.heap.size w).drew).trans hb
  have hD1 := HD.out.below hb' HD.out.lt
  have hv := hD1.c0
  have hf := hD1.1.free 0
  have HD1 : Hid (Dig w1 D g p c0) := hD1
  clear hD1
  go_wp2_with fail
  refine (be_first c [] b (off + 12) _ _ B w1 rfl ?_).mono ?_
  · exact (HA.out.below hb' (by have := HD.out.lt; omega)).tail 12
  rintro e w2 ⟨rfl, rfl⟩
  go_wp2_with fail
  go_ret
  exact ⟨rfl, HD1.out.put c, (hb'.mono (Nat.le_of_lt HD.out.lt)).setCell (p := ⟨D, 0, none⟩) (Nat.le_refl _) _⟩
end Go.Proofs.Ytocolnikidfbnaa
