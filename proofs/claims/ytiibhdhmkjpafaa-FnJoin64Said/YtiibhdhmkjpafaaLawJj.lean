/- The law on joined texts. -/
import Derived.Test.YtiibhdhmkjpafaaChecked
import Derived.Test.YtiibhdhmkjpafaaUi
import Derived.Test.YtiibhdhmkjpafaaBy
import Derived.WalkKit
import Derived.LoopTactic
namespace Go.Proofs.Ytiibhdhmkjpafaa
open Go.RowKit
set_option maxRecDepth 100000 in
theorem law_FnJoin64 (c p : BitVec 64) (a : Option Addr) (n cap : Nat) (l : List (BitVec 8)) (hn : n = l.length) {w : World} (hA : Bytes w w.heap.size a l) (hcap : n ≤ cap) (a2 : Option Addr) (n2 cap2 : Nat) (l2 : List (BitVec 8)) (hn2 : n2 = l2.length) (hA2 : Bytes w w.heap.size a2 l2) (hcap2 : n2 ≤ cap2) :
    Calls Try.prog 4 #[.int .u64 (u c), .int .u64 (u p), .slice a n cap, .slice a2 n2 cap2] w fun e w' => e = .returned (.bool true) ∧ Below w.heap.size w w' := by
  have Hn : Hid (n = l.length) := hn
  have Hn2 : Hid (n2 = l2.length) := hn2
  clear hn hn2
  by_cases hbig : 2147483647 < n
  · have hd : decide ((2147483647 : Int) < (n : Int)) = true := decide_eq_true (by omega)
    go_enter Try.func4, Try.ntmps4
    go_wp2_with fail
    go_ret
    exact ⟨rfl, Below.refl _ _⟩
  have hd : decide ((2147483647 : Int) < (n : Int)) = false := decide_eq_false (by omega)
  by_cases hbig2 : 2147483647 < n2
  · have hd2 : decide ((2147483647 : Int) < (n2 : Int)) = true := decide_eq_true (by omega)
    go_enter Try.func4, Try.ntmps4
    go_wp2_with fail
    go_ret
    exact ⟨rfl, Below.refl _ _⟩
  have hd2 : decide ((2147483647 : Int) < (n2 : Int)) = false := decide_eq_false (by omega)
  go_enter Try.func4, Try.ntmps4
  go_wp2_with fail
  refine (update64_any p c a l n cap _ w Hn.out (by omega) hcap hA (Nat.le_refl _)).mono ?_
  rintro e w1 ⟨rfl, hb1⟩
  go_wp2_with fail
  refine (update64_any p _ a2 l2 n2 cap2 _ w1 Hn2.out (by omega) hcap2 (hA2.below hb1 (Nat.le_refl _)) hb1.size).mono ?_
  rw [sum_join]
  rintro e w2 ⟨rfl, hb2⟩
  have hbb : Below w.heap.size w w2 := hb1.trans (hb2.mono hb1.size)
  clear hb1 hb2
  obtain ⟨A3, c3, w3, hr3, hown3, hb3, hc3⟩ := copy_bytes w2 a l n cap _ Hn.out (hA.below hbb (Nat.le_refl _)) hbb.size (by omega)
  have hbc : Below w.heap.size w w3 := hbb.trans (hb3.mono hbb.size)
  obtain ⟨A4, c4, w4, hr4, hown4, hb4, hc4, hA4⟩ := more_bytes hown3 hb3 (Nat.le_refl _) a2 l2 n2 cap2 _ Hn2.out (hA2.below hbc (Nat.le_refl _)) (by omega)
  have hbd : Below w.heap.size w w4 := hbb.trans (hb4.mono hbb.size)
  have Hlen : Hid (n + n2 = (l ++ l2).length) := by show n + n2 = _; rw [List.length_append, ← Hn.out, ← Hn2.out]
  clear hown3 hown4 hb3 hb4 hbc
  go_wp2_with (first | (at_builtin; refine wpList_run_append rfl (.tmp 26) (.tmp 27) _ _ rfl rfl rfl hr3 ?_) | (at_builtin; refine wpList_run_append rfl (.tmp 28) (.tmp 29) _ _ rfl rfl rfl hr4 ?_))
  clear hr3 hr4
  refine (update64_any p c A4 (l ++ l2) (n + n2) c4 _ w4 Hlen.out (by omega) hc4 hA4 (Nat.le_refl _)).mono ?_
  rintro e w5 ⟨rfl, hb5⟩
  have hbe : Below w.heap.size w w5 := hbd.trans (hb5.mono hbd.size)
  clear hb5
  go_wp2_with fail
  refine (update64_any p c none [] 0 0 0 w5 rfl (by omega) (by omega) (Bytes.nil _ _ _) (by omega)).mono ?_
  rw [sum_nil]
  rintro e w6 ⟨rfl, hb6⟩
  go_wp2_with fail
  go_ret
  exact ⟨rfl, hbe.trans (hb6.mono hbe.size)⟩
end Go.Proofs.Ytiibhdhmkjpafaa
