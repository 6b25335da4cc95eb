/- The law on states that are cut, or have more behind them. -/
import Derived.Test.YtocolnikidfbnaaChecked
import Derived.Test.YtocolnikidfbnaaUm
import Derived.WalkKit
import Derived.LoopTactic
namespace Go.Proofs.Ytocolnikidfbnaa
open Go.RowKit
set_option maxRecDepth 100000 in
set_option maxHeartbeats 1000000 in
theorem law_FnMarshalCut64 (p : BitVec 64) (P : Option Addr) (m cap : Nat) (A : Nat → Option Addr) (C : Nat → Nat) (l : Nat → List (BitVec 8)) {w : World}
    (hP : Pieces w w.heap.size P m A C l) (n : BitVec 8) (a2 : Option Addr) (n2 cap2 : Nat) (l2 : List (BitVec 8)) (hn2 : n2 = l2.length) (hA2 : Bytes w w.heap.size a2 l2) (hcap2 : n2 ≤ cap2) :
    Calls Try.prog 4 #[.int .u64 (u p), .slice P m cap, .int .u8 (u n), .slice a2 n2 cap2] w fun e w' => e = .returned (.bool true) ∧ Below w.heap.size w w' := by
  have Hn2 : Hid (n2 = l2.length) := hn2
  have HP : Hid (Pieces w w.heap.size P m A C l) := hP
  have HA2 : Hid (Bytes w w.heap.size a2 l2) := hA2
  clear hn2 hP hA2
  by_cases hbig2 : 2147483647 < n2
  · have hd2 : decide ((2147483647 : Int) < (n2 : Int)) = true := decide_eq_true (by omega)
    go_enter Try.func4, Try.ntmps4
    go_wp2_with fail
    refine (fits_any P m cap _ A C l w HP.out).mono ?_
    rintro e w1 ⟨b, rfl, _, rfl⟩
    cases b
    · go_wp2_with fail
      go_ret
      exact ⟨rfl, Below.refl _ _⟩
    · go_wp2_with fail
      go_ret
      exact ⟨rfl, Below.refl _ _⟩
  have hd2 : decide ((2147483647 : Int) < (n2 : Int)) = false := decide_eq_false (by omega)
  have hn0 := u_nonneg n
  have hn1 : u n < 256 := u_lt n
  go_enter Try.func4, Try.ntmps4
  go_wp2_with fail
  refine (fits_any P m cap _ A C l w HP.out).mono ?_
  rintro e w1 ⟨b, rfl, hfit, rfl⟩
  cases b
  · go_wp2_with fail
    go_ret
    exact ⟨rfl, Below.refl _ _⟩
  have Hf : Hid (fits m l) := hfit rfl
  clear hfit
  go_wp2_with fail
  refine (marshal64_any p P m cap _ A C l w HP.out (Nat.le_refl _) Hf.out).mono ?_
  rintro e w2 ⟨G, rfl, hS, hb2⟩
  go_wp2_with fail
  have hr20 : (u n % 20).toNat < 20 := by omega
  obtain ⟨r, Hr⟩ : ∃ r, Hid (r = (u n % 20).toNat) := ⟨_, rfl⟩
  rw [← Hr.out] at hr20
  rw [← Hr.out]
  have HS : Hid (Bytes w2 w2.heap.size (some ⟨G, 0, none⟩) (state p (Crc.sum p 0#64 (cat l m)))) := hS
  clear hS
  refine (unmarshal64_no p _ ((state p (Crc.sum p 0#64 (cat l m))).take r) r 20 _ _ w2 ?_ (Or.inl hr20) (by omega) (HS.out.head r) (Nat.le_refl _)).mono ?_
  · rw [List.length_take, state_length]; omega
  rintro e w3 ⟨rfl, hb3⟩
  have hS3 := HS.out.below hb3 (Nat.le_refl _)
  have hbw3 : Below w.heap.size w w3 := hb2.trans (hb3.mono hb2.size)
  obtain ⟨A4, c4, w4, hr4, hown4, hb4, hc4⟩ := copy_bytes w3 _ _ 20 20 _ (state_length p (Crc.sum p 0#64 (cat l m))).symm hS3 hb3.size (by omega)
  have hbc : Below w.heap.size w w4 := hbw3.trans (hb4.mono hbw3.size)
  obtain ⟨A5, c5, w5, hr5, hown5, hb5, hc5, hA5⟩ := more_bytes hown4 hb4 (Nat.le_refl _) a2 l2 n2 cap2 _ Hn2.out (HA2.out.below hbc (Nat.le_refl _)) (by omega)
  have hbd : Below w.heap.size w w5 := hbw3.trans (hb5.mono hbw3.size)
  clear hS3 hown4 hown5 hb4 hb5 hbc hb3
  have HA5 : Hid (Bytes w5 w5.heap.size A5 (state p (Crc.sum p 0#64 (cat l m)) ++ l2)) := hA5
  clear hA5
  by_cases h0 : n2 = 0
  · obtain rfl : n2 = 0 := h0
    have hl2 : l2 = [] := List.eq_nil_of_length_eq_zero Hn2.out.symm
    have HA6 : Hid (Bytes w5 w5.heap.size A5 (state p (Crc.sum p 0#64 (cat l m)))) := by
      have := HA5.out; rw [hl2, List.append_nil] at this; exact this
    clear hl2 HA5
    obtain ⟨b, off, rfl, _, _⟩ := HA6.out (by rw [state_length]; omega)
    go_wp2_with (first | (at_builtin; refine wpList_run_append rfl (.tmp 50) (.tmp 51) _ _ rfl rfl rfl hr4 ?_) | (at_builtin; refine wpList_run_append rfl (.tmp 52) (.tmp 53) _ _ rfl rfl rfl hr5 ?_))
    clear hr4 hr5
    refine (unmarshal64_ok p _ b off c5 _ none 0 0 0 (fun _ => none) (fun _ => 0) (fun _ => []) w5 hc5 HA6.out (Nat.le_refl _) (Pieces.nil _ _ _ _ _ _) (Nat.zero_le _) ⟨by omega, fun r hr => absurd hr (by omega)⟩).mono ?_
    rintro e w6 ⟨rfl, hb6⟩
    go_wp2_with fail
    go_ret
    exact ⟨rfl, hbd.trans (hb6.mono hbd.size)⟩
  · have hz : ((n2 : Int) == 0) = false := by rw [beq_eq_false_iff_ne]; omega
    have hlen : Hid (20 + n2 = (state p (Crc.sum p 0#64 (cat l m)) ++ l2).length) := by show _ = _; rw [List.length_append, state_length, Hn2.out]
    go_wp2_with (first | (at_builtin; refine wpList_run_append rfl (.tmp 50) (.tmp 51) _ _ rfl rfl rfl hr4 ?_) | (at_builtin; refine wpList_run_append rfl (.tmp 52) (.tmp 53) _ _ rfl rfl rfl hr5 ?_))
    clear hr4 hr5
    refine (unmarshal64_no p A5 _ (20 + n2) c5 _ _ w5 hlen.out (Or.inr (by omega)) hc5 HA5.out (Nat.le_refl _)).mono ?_
    rintro e w6 ⟨rfl, hb6⟩
    go_wp2_with fail
    go_ret
    exact ⟨rfl, hbd.trans (hb6.mono hbd.size)⟩
end Go.Proofs.Ytocolnikidfbnaa
