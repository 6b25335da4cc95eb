/- Two tables by value are the same just where their polynomials are. -/
import Derived.Test.YtocolnikidfbnaaTb
import Derived.Test.YtocolnikidfbnaaMt
import Derived.Laws.StructEq
namespace Go.Proofs.Ytocolnikidfbnaa
open Go.RowKit
section
variable {P : Program}
/-- arrays of words compared, entry by entry -/
theorem run_eq_arr (w : World) (d : Nat) (t e : TypeId) (len : Nat) (xs ys : Array Value) (f g : Nat → Int) (k k' : IntKind) (ht : P.underlying t = some (.array len e)) (hs : (P.info? e).map (·.size) = some 1) (he : P.underlying e = some (.int k'))
    (hf : ∀ i, i < len → xs[i]? = some (.int k (f i))) (hg : ∀ i, i < len → ys[i]? = some (.int k (g i))) :
    ∃ b : Bool, (Op.equalIn (d + 2) t (.agg xs) (.agg ys)).run P w = .ok b w ∧ (b = true ↔ ∀ i, i < len → f i = g i) := by
  have hsz : ∀ w, (sizeOf e).run P w = .ok 1 w := by
    intro w
    cases hq : P.info? e with
    | none => simp [hq] at hs
    | some i => have : i.size = 1 := by simpa [hq] using hs
                simp [sizeOf, typeInfo, hq, this]
  have hna : ∀ w, (isAgg e).run P w = .ok false w := fun w => by simp [isAgg, run_underlying he]
  have hx : ∀ i, i < len → ∀ w, (part e xs (i * 1)).run P w = .ok (.int k (f i)) w := fun i hi w => by simp [part, hna, hf i hi]
  have hy : ∀ i, i < len → ∀ w, (part e ys (i * 1)).run P w = .ok (.int k (g i)) w := fun i hi w => by simp [part, hna, hg i hi]
  have heq : ∀ i w, (Op.equalIn (d + 1) e (.int k (f i)) (.int k (g i))).run P w = .ok (f i == g i) w := fun i w => run_equalIn_int w d e k k' _ _ he
  rw [Op.equalIn]
  simp only [Sem.run_bind, run_underlying ht, Result.andThen_ok, hsz]
  rw [Std.Legacy.Range.forIn_eq_forIn_range']
  have aux : ∀ (A : Bool → Prop) (B B' : Prop), (B' ↔ B) → (∃ b, A b ∧ (b = true ↔ B')) → ∃ b, A b ∧ (b = true ↔ B) := fun A B B' h ⟨b, h1, h2⟩ => ⟨b, h1, h2.trans h⟩
  have hmem : ∀ i, i ∈ List.range' ([:len] : Std.Legacy.Range).start ([:len] : Std.Legacy.Range).size ([:len] : Std.Legacy.Range).step ↔ i < len := by
    intro i
    simp [Std.Legacy.Range.size, List.mem_range']
  refine aux _ _ (∀ i ∈ List.range' ([:len] : Std.Legacy.Range).start ([:len] : Std.Legacy.Range).size ([:len] : Std.Legacy.Range).step, f i = g i) ⟨fun h i hi => h i ((hmem i).2 hi), fun h i hi => h i ((hmem i).1 hi)⟩ ?_
  have hin := fun i => (hmem i).1
  clear hmem aux
  generalize List.range' ([:len] : Std.Legacy.Range).start ([:len] : Std.Legacy.Range).size ([:len] : Std.Legacy.Range).step = fs at hin ⊢
  induction fs with
  | nil => exact ⟨true, by simp, ⟨fun _ i h => absurd h (by simp), fun _ => rfl⟩⟩
  | cons a fs ih =>
    have ha : a < len := hin a (by simp)
    simp only [List.forIn_cons, Sem.run_bind, hx a ha, hy a ha, heq, Result.andThen_ok, Sem.run_ite, Sem.run_pure]
    by_cases h : f a = g a
    · have hb : (f a == g a) = true := by simp [h]
      rw [hb]
      simp only [Bool.not_true, Bool.false_eq_true, if_false, Result.andThen_ok]
      obtain ⟨b, h1, h2⟩ := ih (fun i hi => hin i (by simp [hi]))
      refine ⟨b, h1, h2.trans ⟨fun h3 i h4 => ?_, fun h3 i h4 => h3 i (by simp [h4])⟩⟩
      rcases List.mem_cons.1 h4 with h5 | h5
      · subst h5; exact h
      · exact h3 i h5
    · have hb : (f a == g a) = false := by simp [h]
      rw [hb]
      simp only [Bool.not_false, if_true, Result.andThen_ok, Sem.run_pure]
      exact ⟨false, rfl, ⟨fun h1 => absurd h1 (by simp), fun h1 => absurd (h1 a (by simp)) h⟩⟩
end
theorem T_128 (p : BitVec 64) : Crc.T p 0 128 = p := by
  unfold Crc.T
  rw [show 8 * (0 + 1) = 7 + 1 from rfl, Crc.steps_add, show BitVec.ofNat 64 128 = 1#64 <<< 7 by decide, Crc.steps_shl, show (1#64 <<< 7) >>> 7 = 1#64 by decide]
  unfold Crc.steps Crc.steps Crc.step
  simp
theorem info_word1 : (Try.prog.info? 22).map (·.size) = some 1 := by kernel_rfl
theorem eq_tabs (p q : BitVec 64) (w : World) : (Op.equal 56 (.agg (tabArr p)) (.agg (tabArr q))).run Try.prog w = .ok (p == q) w := by
  obtain ⟨b, h1, h2⟩ := run_eq_arr (P := Try.prog) w 9998 56 22 256 (tabArr p) (tabArr q) (fun i => u (Crc.T p 0 i)) (fun i => u (Crc.T q 0 i)) .u64 .u64 Try.underlying56 info_word1 Try.underlying22 (fun i hi => tabArr_get p i hi) (fun i hi => tabArr_get q i hi)
  have hb : b = (p == q) := by
    rw [Bool.eq_iff_iff, h2, beq_iff_eq]
    constructor
    · intro h
      have := h 128 (by omega)
      rw [u_inj, T_128, T_128] at this
      exact this
    · intro h; subst h; intro i _; rfl
  rw [← hb]
  exact h1
end Go.Proofs.Ytocolnikidfbnaa
