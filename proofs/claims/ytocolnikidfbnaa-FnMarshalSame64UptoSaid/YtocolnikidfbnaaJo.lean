/- Pieces joined, the bytes of a number with the highest first, two texts compared: what Join, High64 and Same return. -/
import Derived.Test.YtocolnikidfbnaaChecked
import Derived.Test.YtocolnikidfbnaaMa
import Derived.Test.YtocolnikidfbnaaUn
import Derived.WalkKit
import Derived.LoopTactic
namespace Go.Proofs.Ytocolnikidfbnaa
open Go.RowKit
/-- an append behind a guard that is met, as an arm of the walk -/
theorem wpList_run_append_g {P : Program} {ops : Array Oper} {rest : List Oper} {o : Oper} {a : Act} {w : World} {Q : Exit → Act → World → Prop} (hw : Region.wanted o (yielded ops a.tmps) = true) (s x : Operand) (t t2 : TypeId)
    (ho : o.op = .call { callee := .builtin .append, args := #[s, x], argTypes := #[t, t2] }) {v xv v' : Value} {w' : World} (hs : a.eval s = v) (hx : a.eval x = xv)
    (hr : (Builtin.append_ #[t, t2] o.type #[v, xv]).run P w = .ok v' w') (h : wpList P ops Q rest (a.put o.dst v') w') : wpList P ops Q (o :: rest) a w :=
  wpList_step fun _ hK => by rw [if_pos hw]; exact wp_run_append s x t t2 ho hs hx hr (hK _ _ h)
/-- a new row of bytes -/
def NewPost (r : List (BitVec 8)) (w : World) (e : Ending) (w' : World) : Prop := ∃ A n c, e = .returned (.slice A n c) ∧ n = r.length ∧ n ≤ c ∧ w'.ownsRow w.heap.size 5 1 (.slice A n c) n (r.map byteV) ∧ Below w.heap.size w w'
theorem cat_le (l : Nat → List (BitVec 8)) (m : Nat) : ∀ k, k ≤ m → (cat l k).length ≤ (cat l m).length := by
  induction m with
  | zero => intro k hk; obtain rfl : k = 0 := by omega
            exact Nat.le_refl _
  | succ m ih =>
    intro k hk
    rcases Nat.lt_or_ge k (m + 1) with h | h
    · have := ih k (by omega)
      simp only [cat, List.length_append]; omega
    · obtain rfl : k = m + 1 := by omega
      exact Nat.le_refl _
set_option maxRecDepth 100000 in
set_option maxHeartbeats 800000 in
theorem join_any (P : Option Addr) (m cap B : Nat) (A : Nat → Option Addr) (C : Nat → Nat) (l : Nat → List (BitVec 8)) (w : World) (hP : Pieces w B P m A C l) (hB : B ≤ w.heap.size) (hm : m ≤ 2147483647) (hlen : (cat l m).length ≤ 1048576) :
    Calls Try.prog 9 #[.slice P m cap] w (NewPost (cat l m) w) := by
  have HP : Hid (Pieces w B P m A C l) := hP
  have Hlen : Hid ((cat l m).length ≤ 1048576) := hlen
  clear hP hlen
  go_enter Try.func9, Try.ntmps9
  go_wp2_with fail
  go_loopw [3, 4] (fun s i wr => ∃ k n : Nat, k ≤ m ∧ i = .int .i64 k ∧ Hid (n = (cat l k).length) ∧ wr.ownsRow w.heap.size 5 1 s n ((cat l k).map byteV) ∧ Below w.heap.size w wr) (fun _ i _ => m - (intOf i).toNat)
  case atStart => exact ⟨0, 0, by omega, rfl, rfl, World.ownsRow_nil _ _ _ _, Below.refl _ _⟩
  case round =>
    obtain ⟨k, n, hk, rfl, Hn, hown, hbr⟩ := hrel
    obtain ⟨A0, c', rfl, hcl, _, hcell⟩ := ownsRow_form hown
    clear hcell
    by_cases hlt : k < m
    · obtain ⟨b, off, rfl, hb, hc⟩ := HP.out.below hbr hB (by omega)
      obtain ⟨hck, hcap, hAk⟩ := hc k hlt
      obtain ⟨q, Hq⟩ : ∃ q : Nat, Hid (q = (l k).length) := ⟨_, rfl⟩
      rw [← Hq.out] at hck hcap
      clear hc
      have hle := cat_le l m (k + 1) hlt
      rw [cat, List.length_append, ← Hn.out, ← Hq.out] at hle
      have hsz : n + q ≤ 1048576 := Nat.le_trans hle Hlen.out
      clear hle
      obtain ⟨A3, c3, w3, hr3, ho3, hb3, hc3, _⟩ := more_bytes hown hbr (Nat.le_refl _) (A k) (l k) q (C k) B Hq.out hAk (by omega)
      have HA : Hid (Bytes wr B (A k) (l k)) := hAk
      clear hAk hown
      go_wp2_with (at_builtin; refine wpList_run_append rfl (.tmp 11) (.tmp 15) _ _ rfl rfl rfl hr3 ?_)
      clear hr3
      go_roundw
      case rel => exact ⟨k + 1, n + q, by omega, by go_num, by show _ = _; rw [cat, List.length_append, ← Hn.out, ← Hq.out], ho3, hb3⟩
      case measure => simp [intOf]; omega
    · obtain rfl : k = m := by omega
      go_wp2_with fail
      go_ret
      exact ⟨A0, n, c', rfl, Hn.out, hcl, hown, hbr⟩
/-- are two texts the same, closed to the walk -/
def eqB (l m : List (BitVec 8)) : Bool := (strOf l).toList == (strOf m).toList
theorem eqB_is (l m : List (BitVec 8)) : eqB l m = (l == m) := strOf_beq l m
theorem same_any (A1 A2 : Option Addr) (l1 l2 : List (BitVec 8)) (n1 c1 n2 c2 B1 B2 : Nat) (w : World) (h1 : n1 = l1.length) (h2 : n2 = l2.length) (p1 : 0 < n1) (p2 : 0 < n2) (hA1 : Bytes w B1 A1 l1) (hA2 : Bytes w B2 A2 l2) :
    Calls Try.prog 10 #[.slice A1 n1 c1, .slice A2 n2 c2] w fun e w' => e = .returned (.bool (eqB l1 l2)) ∧ w = w' := by
  have hv1 := conv_bytes w B1 A1 l1 n1 c1 h1 p1 hA1
  have hv2 := conv_bytes w B2 A2 l2 n2 c2 h2 p2 hA2
  clear h1 h2 hA1 hA2
  go_enter Try.func10, Try.ntmps10
  go_wp2_with fail
  go_ret
  exact ⟨rfl, rfl⟩
theorem be8_take (x : BitVec 64) (k z : Nat) (hk : k < 8) (hz : z = 56 - 8 * k) : ((be8 x).take k).map byteV ++ [.int .u8 (u ((x >>> z).setWidth 8))] = ((be8 x).take (k + 1)).map byteV := by
  have h := nth_be8 x [] k hk
  rw [List.append_nil, ← hz] at h
  rw [take_succ_nth (be8 x) k (by simpa [be8] using hk), List.map_append, h]
  rfl
theorem cell_one (w : World) (v : Value) (t : TypeId) : Cells (w.alloc (.cells #[v] t)) (w.heap.size + 1) (some ⟨w.heap.size, 0, none⟩) [v] := by
  intro _
  refine ⟨_, _, rfl, by omega, fun j x hx => ?_⟩
  cases j with
  | zero => simp at hx; subst hx; exact (Blk.new w t #[v]).cell 0
  | succ j => simp at hx
set_option maxRecDepth 100000 in
set_option maxHeartbeats 800000 in
theorem high_any (x : BitVec 64) (w : World) : Calls Try.prog 14 #[.int .u64 (u x)] w (NewPost (be8 x) w) := by
  obtain ⟨i0, hi, hz0, hz1, hz2⟩ := info_parts info_byte
  have Hi : Hid (Try.prog.info? 5 = some i0) := hi
  have Hz0 : Hid (i0.zero = some (.int .u8 0)) := hz0
  have Hz1 : Hid (i0.size = 1) := hz1
  have Hz2 : Hid (i0.bytes = 1) := hz2
  clear hi hz0 hz1 hz2
  go_enter Try.func14, Try.ntmps14
  go_wp2_with fail
  go_loopw [3, 4] (fun s i wr => ∃ (k : Nat) (z : Int), k ≤ 8 ∧ -8 ≤ z ∧ z ≤ 56 ∧ Hid (z = 56 - 8 * (k : Int)) ∧ i = .int .i64 z ∧ wr.ownsRow w.heap.size 5 1 s k (((be8 x).take k).map byteV) ∧ Below w.heap.size w wr) (fun _ i _ => (intOf i + 8).toNat)
  case atStart => exact ⟨0, 56, by omega, by omega, by omega, rfl, rfl, World.ownsRow_nil _ _ _ _, Below.refl _ _⟩
  case round =>
    obtain ⟨k, z, hk, z1, z2, Hz, rfl, hown, hbr⟩ := hrel
    obtain ⟨A0, c', rfl, hcl, _, hcell⟩ := ownsRow_form hown
    clear hcell
    by_cases hlt : k < 8
    · have z3 : 0 ≤ z := by have := Hz.out; omega
      have hd : decide ((0 : Int) ≤ z) = true := decide_eq_true z3
      obtain ⟨y, hy⟩ : ∃ y, y = (x >>> z.toNat).setWidth 8 := ⟨_, rfl⟩
      have hbn : Below w.heap.size w (wr.alloc (.cells #[.int .u8 (u y)] 5)) := hbr.alloc hbr.size _
      obtain ⟨A3, c3, w3, hr3, hown3, hg3, hb3, hc3, _⟩ := run_app (P := Try.prog) (wr.alloc (.cells #[.int .u8 (u y)] 5)) w.heap.size 25 25 5 i0 (.int .u8 0) 1 Try.underlying25 Hi.out Hz0.out Hz1.out Hz2.out rfl _ k _ (hown.alloc _) (wr.heap.size + 1) (some ⟨wr.heap.size, 0, none⟩) 1 1 [.int .u8 (u y)] rfl (cell_one wr _ _) (by simp [Value.oneCell']) (by unfold maxLen; omega) (by omega) hbn.size
      rw [hy] at hr3 hown3 hg3 hb3 hbn
      rw [be8_take x k z.toNat hlt (by have := Hz.out; omega)] at hown3
      have hbx := hbn.trans hb3
      clear hy hb3 hbn hg3 hown
      go_wp2_with (at_builtin; refine wpList_run_append rfl (.tmp 9) (.tmp 14) _ _ rfl rfl rfl hr3 ?_)
      clear hr3
      go_roundw
      case rel => exact ⟨k + 1, z - 8, by omega, by omega, by omega, by show _ = _; have := Hz.out; omega, by go_num, hown3, hbx⟩
      case measure => simp [intOf]; omega
    · obtain rfl : k = 8 := by omega
      have z3 : z = -8 := by have := Hz.out; omega
      subst z3
      go_wp2_with fail
      go_ret
      exact ⟨A0, 8, c', rfl, rfl, hcl, hown, hbr⟩
end Go.Proofs.Ytocolnikidfbnaa
