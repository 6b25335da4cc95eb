/- append onto a row of the call's own: from a slice that may be nil, and of zeros ('append(x, make([]T, n)...)'); rows read back as lists. -/
import Derived.Test.YtocolnikidfbnaaMem
import Derived.Laws.AppendOwn
import Derived.Laws.OwnMore
import Derived.OwnWalk
import Derived.RegionTactic
namespace Go.Proofs.Ytocolnikidfbnaa
open Go.RowKit
/-- a slice's address leads, below block B, to the cells xs -/
def Cells (w : World) (B : Nat) (A : Option Addr) (xs : List Value) : Prop :=
  0 < xs.length → ∃ b off, A = some ⟨b, off, none⟩ ∧ b < B ∧ ∀ j v, xs[j]? = some v → w.cell? ⟨b, off + j, none⟩ = some v
theorem Cells.below {w w' : World} {B C : Nat} {A : Option Addr} {xs : List Value} (h : Cells w B A xs) (hb : Below C w w') (hBC : B ≤ C) : Cells w' B A xs := by
  intro hl
  obtain ⟨b, off, rfl, hlt, hc⟩ := h hl
  exact ⟨b, off, rfl, hlt, fun j v hv => (hb.cell (p := ⟨b, off + j, none⟩) (by show b < C; omega)).trans (hc j v hv)⟩
theorem Cells.more {w : World} {B C : Nat} {A : Option Addr} {xs : List Value} (h : Cells w B A xs) (hBC : B ≤ C) : Cells w C A xs := by
  intro hl
  obtain ⟨b, off, rfl, hlt, hc⟩ := h hl
  exact ⟨b, off, rfl, by omega, hc⟩
/-- a word as a cell holds it -/
def wordV (c : BitVec 64) : Value := .int .u64 (u c)
/-- a byte as a cell holds it -/
def byteV (b : BitVec 8) : Value := .int .u8 (u b)
theorem nth_some {l : List (BitVec 8)} {j : Nat} (hj : j < l.length) : (l.map byteV)[j]? = some (.int .u8 (u (nth l j))) := by
  rw [List.getElem?_map, List.getElem?_eq_getElem hj]
  simp [nth, hj, byteV]
theorem Bytes.cells {w : World} {B : Nat} {A : Option Addr} {l : List (BitVec 8)} (h : Bytes w B A l) : Cells w B A (l.map byteV) := by
  intro hl
  obtain ⟨b, off, rfl, hb, hc⟩ := h (by simpa using hl)
  refine ⟨b, off, rfl, hb, fun j v hv => ?_⟩
  have hj : j < l.length := by
    have := (List.getElem?_eq_some_iff.1 hv).1; simpa using this
  rw [nth_some hj] at hv
  rw [hc j hj]; exact hv
theorem Cells.bytes {w : World} {B : Nat} {A : Option Addr} {l : List (BitVec 8)} (h : Cells w B A (l.map byteV)) : Bytes w B A l := by
  intro hl
  obtain ⟨b, off, rfl, hb, hc⟩ := h (by simpa using hl)
  exact ⟨b, off, rfl, hb, fun j hj => hc j _ (nth_some hj)⟩
theorem ownsRow_form {w : World} {base : Nat} {e : TypeId} {v : Value} {n : Nat} {xs : List Value} (h : w.ownsRow base e 1 v n xs) :
    ∃ A c, v = .slice A n c ∧ n ≤ c ∧ xs.length = n ∧ Cells w w.heap.size A xs := by
  have hl : xs.length = n := by simpa using h.1
  rcases h.2 with ⟨rfl, rfl⟩ | ⟨g, cap, cur, rfl, hbg, hg, hnc, hcm, hcs, ht⟩
  · exact ⟨none, 0, rfl, Nat.le_refl _, hl, fun hp => absurd hp (by omega)⟩
  · refine ⟨_, cap, rfl, hnc, hl, fun hp => ⟨g, 0, rfl, ?_, fun j v hv => ?_⟩⟩
    · exact (Array.getElem?_eq_some_iff.1 hg).1
    · rw [Nat.zero_add, cell_of_row w g j cur e (0, 0) hg]
      rw [← ht, List.getElem?_take] at hv
      split at hv
      · simpa using hv
      · cases hv
theorem ownBlock_base {w : World} {base : Nat} {e : TypeId} {v : Value} {n : Nat} {xs : List Value} (h : w.ownsRow base e 1 v n xs) : ∀ k, v.ownBlock = some k → base ≤ k := by
  intro k hk
  rcases h.2 with ⟨rfl, _⟩ | ⟨g, cap, cur, rfl, hbg, _⟩
  · simp [Value.ownBlock] at hk
  · simp [Value.ownBlock] at hk; omega
section
variable {P : Program} (w : World)
theorem run_append_nil_src (base : Nat) (t ty e : TypeId) (i : TypeInfo) (ht : P.underlying t = some (.slice e)) (hi : P.info? e = some i)
    (v : Value) (n : Nat) (xs : List Value) (hown : w.ownsRow base e 1 v n xs) (A : Option Addr) (c : Nat) (hA : A = none) :
    (Builtin.append_ #[t, t] ty #[v, .slice A 0 c]).run P w = .ok v w := by
  subst hA
  rcases hown.2 with ⟨rfl, rfl⟩ | ⟨g, cap, cur, rfl, _, _, hnc, _⟩
  · simp [Builtin.append_, run_underlying ht, sizeOf, typeInfo, hi, Builtin.lenOf, Builtin.firstCells]
  · simp [Builtin.append_, run_underlying ht, sizeOf, typeInfo, hi, Builtin.lenOf, Builtin.firstCells, hnc, storeCells]
/-- append(v, x...): x nil, empty or not -/
theorem run_app (base : Nat) (t ty e : TypeId) (i : TypeInfo) (z : Value) (bytes : Nat) (ht : P.underlying t = some (.slice e)) (hi : P.info? e = some i) (hz : i.zero = some z)
    (hsize : i.size = 1) (hby : i.bytes = bytes) (hzs : z.cells.size = 1)
    (v : Value) (n : Nat) (xs : List Value) (hown : w.ownsRow base e 1 v n xs)
    (B : Nat) (A : Option Addr) (m c : Nat) (news : List Value) (hl : news.length = m) (hsrc : Cells w B A news) (h1 : ∀ x ∈ news, x.oneCell' = true)
    (h63 : n + m ≤ maxLen) (hbytes : (n + m) * bytes ≤ 140737488355328) (hbase : base ≤ w.heap.size) :
    ∃ A' c' w', (Builtin.append_ #[t, t] ty #[v, .slice A m c]).run P w = .ok (.slice A' (n + m) c') w' ∧ w'.ownsRow base e 1 (.slice A' (n + m) c') (n + m) (xs ++ news) ∧ w.grownBy w' v.ownBlock ∧ Below base w w' ∧ n + m ≤ c' ∧ Cells w' w'.heap.size A' (xs ++ news) := by
  suffices hh : ∃ v' w', (Builtin.append_ #[t, t] ty #[v, .slice A m c]).run P w = .ok v' w' ∧ w'.ownsRow base e 1 v' (n + m) (xs ++ news) ∧ w.grownBy w' v.ownBlock by
    obtain ⟨v', w', hr, ho, hg⟩ := hh
    obtain ⟨A', c', rfl, hc, _, hcell⟩ := ownsRow_form ho
    exact ⟨A', c', w', hr, ho, hg, (Below.refl _ _).grown hg hbase (ownBlock_base hown), hc, hcell⟩
  by_cases hm : 0 < m
  · obtain ⟨b, off, rfl, _, hc⟩ := hsrc (by omega)
    obtain ⟨v', w', hr, h2, h3, _⟩ := run_append_own (P := P) w base t ty e i z 1 bytes ht hi hz hsize hby hzs (by omega) v n xs hown ⟨b, off, none⟩ m c news (by omega)
      (fun j x hx => by
        have : (⟨b, off, none⟩ : Addr).add j = ⟨b, off + j, none⟩ := by unfold Addr.add; split <;> simp_all
        rw [this]; exact hc j x hx) h1 h63 hbytes hbase
    exact ⟨v', w', hr, h2, h3⟩
  · have hm0 : m = 0 := by omega
    subst hm0
    have hn : news = [] := List.eq_nil_of_length_eq_zero hl
    subst hn
    cases A with
    | none => exact ⟨v, w, run_append_nil_src w base t ty e i ht hi v n xs hown none c rfl, by simpa using hown, World.grownBy.refl w _⟩
    | some ad =>
      obtain ⟨v', w', hr, h2, h3, _⟩ := run_append_own (P := P) w base t ty e i z 1 bytes ht hi hz hsize hby hzs (by omega) v n xs hown ad 0 c [] (by simp) (fun j x hx => by simp at hx) h1 h63 hbytes hbase
      exact ⟨v', w', hr, h2, h3⟩
/-- append(v, make([]T, m)...) -/
theorem run_app_zeros (base : Nat) (t ti ty e : TypeId) (i : TypeInfo) (z : Value) (bytes : Nat) (ht : P.underlying t = some (.slice e)) (hti : P.underlying ti = some (.int .i64)) (hi : P.info? e = some i) (hz : i.zero = some z)
    (hsize : i.size = 1) (hby : i.bytes = bytes) (hzs : z.cells = #[z]) (hz1 : z.oneCell' = true)
    (v : Value) (n : Nat) (xs : List Value) (hown : w.ownsRow base e 1 v n xs) (m : Nat) (hm0 : 0 < m)
    (h63 : n + m ≤ maxLen) (hbytes : (n + m) * bytes ≤ 140737488355328) (hbase : base ≤ w.heap.size) :
    ∃ A' c' w', (Builtin.append_ #[t, ti] ty #[v, .int .i64 m]).run P w = .ok (.slice A' (n + m) c') w' ∧ w'.ownsRow base e 1 (.slice A' (n + m) c') (n + m) (xs ++ List.replicate m z) ∧ w.grownBy w' v.ownBlock ∧ Below base w w' ∧ n + m ≤ c' ∧ Cells w' w'.heap.size A' (xs ++ List.replicate m z) := by
  suffices hh : ∃ v' w', (Builtin.append_ #[t, ti] ty #[v, .int .i64 m]).run P w = .ok v' w' ∧ w'.ownsRow base e 1 v' (n + m) (xs ++ List.replicate m z) ∧ w.grownBy w' v.ownBlock by
    obtain ⟨v', w', hr, ho, hg⟩ := hh
    obtain ⟨A', c', rfl, hc, _, hcell⟩ := ownsRow_form ho
    exact ⟨A', c', w', hr, ho, hg, (Below.refl _ _).grown hg hbase (ownBlock_base hown), hc, hcell⟩
  have hlx : xs.length = n := by simpa using hown.1
  have hzc : ∀ k, Builtin.zeroCells z.cells k = (List.replicate k z).toArray := by
    intro k
    rw [hzs]
    apply Array.ext
    · simp [Builtin.zeroCells]
    · intro j h1 h2
      simp [Builtin.zeroCells, Nat.mod_one]
  have hmm : (m : Int) ≤ 9223372036854775807 := by simp only [maxLen] at h63; omega
  have hwrap : IntKind.i64.wrap (m : Int) = m := by
    rw [IntKind.wrap_i64]
    omega
  subst hby
  have hmb : ¬ (281474976710656 < (m : Int) * (i.bytes : Int)) := by
    have h1 : m * i.bytes ≤ (n + m) * i.bytes := Nat.mul_le_mul_right _ (by omega)
    have h2 : m * i.bytes ≤ 140737488355328 := by omega
    have h3 : ((m * i.bytes : Nat) : Int) ≤ 140737488355328 := by omega
    rw [Int.natCast_mul] at h3
    omega
  have hneg : ¬ ((m : Int) < 0) := by omega
  have hmz : m ≠ 0 := by omega
  have hai : ∀ w : World, (asInt (Value.int .i64 (m : Int))).run P w = .ok (m : Int) w := fun _ => rfl
  rcases hown.2 with ⟨rfl, rfl⟩ | ⟨g, cap, cur, rfl, hbg, hg, hnc, hcm, hcs, htake⟩
  · have hx : xs = [] := List.eq_nil_of_length_eq_zero hlx
    subst hx
    have h48' : ¬ (281474976710656 < Builtin.nextslicecap m 0 * i.bytes) := by
      rw [nextslicecap_zero hm0]
      rw [Nat.zero_add] at hbytes; omega
    have h63' : ¬ (9223372036854775807 < (m : Int)) := by omega
    refine ⟨.slice (some ⟨w.heap.size, 0, none⟩) (0 + m) (grownCap w m 0 e), w.drew.alloc (.cells ((List.replicate m z).toArray ++ (List.replicate (grownCap w m 0 e - m) z).toArray) e), ?_, ?_, ?_⟩
    · simp [Builtin.append_, run_underlying ht, run_underlying hti, hai, sizeOf, typeInfo, zeroValue, hi, hz, hwrap, hneg, hmb, hmz, h63', h48', Question.forced, Builtin.firstCells, hsize, newRow, grownCap, hzc]
    · have hge := grownCap_ge w m 0 e
      refine ⟨by simp, .inr ⟨w.heap.size, _, _, rfl, hbase, heap_alloc_new w.drew _, by omega, grownCap_le_maxLen w m 0 e (by omega), ?_, ?_⟩⟩
      · simp; omega
      · simp
    · exact ⟨rfl, rfl, rfl, by simp, fun k hk _ => Below.heap_alloc w.drew _ k hk⟩
  · by_cases hroom : n + m ≤ cap
    · have hst := run_storeCells_at P g n e (List.replicate m z) 0 cur w hg (by simp; omega) (fun x hx => by rw [List.eq_of_mem_replicate hx]; exact hz1)
      simp only [Nat.add_zero] at hst
      refine ⟨.slice (some ⟨g, 0, none⟩) (n + m) cap, w.setRow g (cur.toList.take n ++ List.replicate m z ++ cur.toList.drop (n + (List.replicate m z).length)).toArray, ?_, ?_, ?_⟩
      · simp [Builtin.append_, run_underlying ht, run_underlying hti, hai, sizeOf, typeInfo, zeroValue, hi, hz, hwrap, hneg, hmb, hmz, hroom, hsize, hzc, Addr.add_lit, hst]
      · refine ⟨by simp [hlx], .inr ⟨g, cap, _, rfl, hbg, setRow_heap w g cur _ e _ hg, hroom, hcm, ?_, ?_⟩⟩
        · simp; omega
        · simp only [Nat.mul_one] at htake ⊢
          rw [htake]
          have : (xs ++ List.replicate m z).length = n + m := by simp [hlx]
          rw [List.append_assoc, ← List.append_assoc, ← this]
          exact List.take_left
      · exact ⟨rfl, rfl, rfl, by simp, fun k _ hk => setRow_other w g k _ (fun e => hk (by simp [Value.ownBlock, e]))⟩
    · have holds : ∀ j x, xs[j]? = some x → w.drew.cell? ((⟨g, 0, none⟩ : Addr).add j) = some x := hown.cells (g := g) rfl
      have hfo := run_firstCells_some (P := P) w.drew i.size n ⟨g, 0, none⟩ n cap xs (by rw [hsize]; omega) holds
      have h48' : ¬ (281474976710656 < Builtin.nextslicecap (n + m) cap * i.bytes) := by have := growslice_fits (old := cap) (by omega) hbytes; omega
      have h63' : ¬ (9223372036854775807 < (n : Int) + (m : Int)) := by simp only [maxLen] at h63; omega
      refine ⟨.slice (some ⟨w.heap.size, 0, none⟩) (n + m) (grownCap w (n + m) cap e), w.drew.alloc (.cells (xs.toArray ++ (List.replicate m z).toArray ++ (List.replicate (grownCap w (n + m) cap e - (n + m)) z).toArray) e), ?_, ?_, ?_⟩
      · rw [hsize] at hfo
        simp [Builtin.append_, run_underlying ht, run_underlying hti, hai, sizeOf, typeInfo, zeroValue, hi, hz, hwrap, hneg, hmb, hmz, hroom, h63', h48', Question.forced, hsize, hzc, hfo, newRow, grownCap]
      · have hge := grownCap_ge w (n + m) cap e
        refine ⟨by simp [hlx], .inr ⟨w.heap.size, _, _, rfl, hbase, heap_alloc_new w.drew _, hge, grownCap_le_maxLen w (n + m) cap e h63, ?_, ?_⟩⟩
        · simp [hlx]; omega
        · simp only [Array.toList_append, Nat.mul_one]
          have : (xs ++ List.replicate m z).length = n + m := by simp [hlx]
          rw [← this]
          exact List.take_left
      · exact ⟨rfl, rfl, rfl, by simp, fun k hk _ => Below.heap_alloc w.drew _ k hk⟩
end
theorem grown_setRow (w : World) (g : Nat) (cs : Array Value) : Below g w (w.setRow g cs) :=
  ⟨rfl, rfl, rfl, by simp, fun k hk => setRow_other w g k cs (by omega)⟩
/-- cells stored into a block that is known whole, from o on -/
theorem Blk.stores {P : Program} {w : World} {g : Nat} {t : TypeId} {cs : Array Value} (h : Blk w g t cs) (o : Nat) (vs : List Value) (hfit : o + vs.length ≤ cs.size) (h1 : ∀ v ∈ vs, v.oneCell' = true) :
    ∃ w2, (storeCells ⟨g, o, none⟩ vs).run P w = .ok () w2 ∧ Blk w2 g t (cs.toList.take o ++ vs ++ cs.toList.drop (o + vs.length)).toArray ∧ Below g w w2 ∧ w2.heap.size = w.heap.size := by
  have hst := run_storeCells_at P g o t vs 0 cs w h (by simpa using hfit) h1
  simp only [Nat.add_zero] at hst
  exact ⟨_, hst, setRow_heap w g cs _ t _ h, grown_setRow w g _, by simp⟩
/-- a whole block overwritten -/
theorem Blk.storeAll {P : Program} {w : World} {g : Nat} {t : TypeId} {cs : Array Value} (h : Blk w g t cs) (vs : Array Value) (hfit : vs.size = cs.size) (h1 : ∀ v ∈ vs, v.oneCell' = true) :
    ∃ w2, (storeCells ⟨g, 0, none⟩ vs.toList).run P w = .ok () w2 ∧ Blk w2 g t vs ∧ Below g w w2 ∧ w2.heap.size = w.heap.size := by
  obtain ⟨w2, hr, hb, h3, h4⟩ := h.stores (P := P) 0 vs.toList (by simp; omega) (fun v hv => h1 v (by simpa using hv))
  refine ⟨w2, hr, ?_, h3, h4⟩
  have e : (cs.toList.take 0 ++ vs.toList ++ cs.toList.drop (0 + vs.toList.length)).toArray = vs := by
    apply Array.ext'
    simp; omega
  rw [e] at hb; exact hb
/-- an append whose run is known, at the walk's goal -/
theorem wp_run_append {P : Program} {o : Oper} {a : Act} {w : World} {K : Act → World → Prop} {Q : Exit → Act → World → Prop} (s x : Operand) (t t2 : TypeId)
    (ho : o.op = .call { callee := .builtin .append, args := #[s, x], argTypes := #[t, t2] }) {v xv v' : Value} {w' : World} (hs : a.eval s = v) (hx : a.eval x = xv)
    (hr : (Builtin.append_ #[t, t2] o.type #[v, xv]).run P w = .ok v' w') (h : K (a.put o.dst v') w') : o.wp P a w K Q := by
  unfold Oper.wp execOp
  simp only [ho, resolve, invoke, builtin, Sem.run_bind, Sem.run_pure, Result.andThen_ok, List.map_toArray, List.map_cons, List.map_nil, hs, hx, hr]
  exact h
theorem below_grownBy {B : Nat} {w w' : World} (h : Below B w w') {row : Option Nat} (hB : ∀ k, k < w.heap.size → some k ≠ row → k < B) : w.grownBy w' row :=
  ⟨h.os, h.tape, h.output, h.size, fun k hk hne => h.block k (hB k hk hne)⟩
/-- a row of the call's own is kept where the blocks below its end are -/
theorem owns_below {w w' : World} {base : Nat} {e : TypeId} {v : Value} {n : Nat} {xs : List Value} (h : w.ownsRow base e 1 v n xs) {B : Nat} (hb : Below B w w') (hB : w.heap.size ≤ B) : w'.ownsRow base e 1 v n xs := by
  refine ⟨h.1, ?_⟩
  rcases h.2 with h2 | ⟨g, cap, cur, hv, hg, hh, r⟩
  · exact Or.inl h2
  · have hlt := (Array.getElem?_eq_some_iff.1 hh).1
    exact Or.inr ⟨g, cap, cur, hv, hg, by rw [hb.block g (by omega)]; exact hh, r⟩
/-- .. as an arm of the walk -/
theorem wpList_run_append {P : Program} {ops : Array Oper} {rest : List Oper} {o : Oper} {a : Act} {w : World} {Q : Exit → Act → World → Prop} (hgd : o.guard = none) (s x : Operand) (t t2 : TypeId)
    (ho : o.op = .call { callee := .builtin .append, args := #[s, x], argTypes := #[t, t2] }) {v xv v' : Value} {w' : World} (hs : a.eval s = v) (hx : a.eval x = xv)
    (hr : (Builtin.append_ #[t, t2] o.type #[v, xv]).run P w = .ok v' w') (h : wpList P ops Q rest (a.put o.dst v') w') : wpList P ops Q (o :: rest) a w :=
  wpList_plain hgd fun _ hK => wp_run_append s x t t2 ho hs hx hr (hK _ _ h)
/-- .. as one step of a region that draws its order -/
theorem step_run_append {P : Program} {ops : Array Oper} {o : Oper} {a : Act} {w : World} {K : Act → World → Prop} {Q : Exit → Act → World → Prop} {E : Prop} (hgd : o.guard = none) (s x : Operand) (t t2 : TypeId)
    (ho : o.op = .call { callee := .builtin .append, args := #[s, x], argTypes := #[t, t2] }) {v xv v' : Value} {w' : World} (hs : a.eval s = v) (hx : a.eval x = xv)
    (hr : (Builtin.append_ #[t, t2] o.type #[v, xv]).run P w = .ok v' w') (h : K (a.put o.dst v') w') : if Region.wanted o (yielded ops a.tmps) = true then Oper.wp P o a w K Q else E := by
  have hw : Region.wanted o (yielded ops a.tmps) = true := by simp [Region.wanted, hgd]
  rw [if_pos hw]
  exact wp_run_append s x t t2 ho hs hx hr h
end Go.Proofs.Ytocolnikidfbnaa
