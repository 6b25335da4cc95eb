/-
  No cell of these rows narrows 'for every input' (looked for: loops, veiled, ifaces, maps, wideKeys, modest, calm, conditions, laid).
  DERIVED. THE GIVEN ROWS OF THIS SEAT. 5 by the template 'for every input the law returns true; each argument reads behind the call as it read before'; 0 by the template 'total and deterministic' (their statements: YtiibhdhmkjpafaaTotals.lean).
  GIVEN WITH THE SEED: the statements are not yours to turn. If you find one false, say at which input.
  Laid BY PROGRAM, IN A SANDBOX (cutbox-rows.mjs): the forced cells as the released guide's own fill.sh prints them over the translation a045db49e373b628… (all of the seat's roots in one cut). By AI agents, Wed Nov 11 2026. No macro, syntax, notation, axiom, sorry.
-/
import Derived.Test.YtiibhdhmkjpafaaChecked
import GoSem.Claim
import GoSem.ClaimJoined
import GoSem.ClaimMapViews
import Derived.JoinedTies
import Derived.KernelRfl
namespace Go.Proofs.Ytiibhdhmkjpafaa
/- THE CELL 'sum', in the pinned program and in every row, IS THE sha256 OF THE DUMP (.gsa) THAT YtiibhdhmkjpafaaProg.lean LOADS. Nothing in Lean hashes anything: it is a label: what it is worth is what the hold of that sum in a sandbox is worth. -/
noncomputable def Try.pinned : Pinned := { name := "ytiibhdhmkjpafaa", sum := "a045db49e373b628abe6a4318371224404581b01147f67a69074e7ced67740c2", checked := Try.checked }
namespace Rows
def none {H : Type} : Left H := { results := [], args := [] }

/-- 'laws.FnBurst64': WHATEVER THE INPUT: true; the input reads as it did. -/
def fnBurst64Spec : ChangeSpec := { name := "fnBurst64", fn := fun _ => fun
  | [d1, d2, d3, d4, d5] => { results := [.lit (.bool true)], args := [d1, d2, d3, d4, d5] }
  | _ => none }
def fnBurst64Row : OpenClaim := { program := "ytiibhdhmkjpafaa", sum := "a045db49e373b628abe6a4318371224404581b01147f67a69074e7ced67740c2", func := "loop.example/pub-cyclicsums/laws.FnBurst64", spec := "fnBurst64", apart := false }
def FnBurst64Said : Prop := fnBurst64Row.holds Try.pinned (OpenSpec.ofChange fnBurst64Spec)

/-- ITS FALSE NEIGHBOUR: 'it returns false'. Refute it at one input. -/
def fnBurst64Wrong : ChangeSpec := { name := "fnBurst64", fn := fun _ => fun
  | [d1, d2, d3, d4, d5] => { results := [.lit (.bool false)], args := [d1, d2, d3, d4, d5] }
  | _ => none }
def FnBurst64WrongFalsely : Prop := fnBurst64Row.holds Try.pinned (OpenSpec.ofChange fnBurst64Wrong)

/-- 'laws.FnJoin64': WHATEVER THE INPUT: true; the input reads as it did. -/
def fnJoin64Spec : ChangeSpec := { name := "fnJoin64", fn := fun _ => fun
  | [d1, d2, d3, d4] => { results := [.lit (.bool true)], args := [d1, d2, d3, d4] }
  | _ => none }
def fnJoin64Row : OpenClaim := { program := "ytiibhdhmkjpafaa", sum := "a045db49e373b628abe6a4318371224404581b01147f67a69074e7ced67740c2", func := "loop.example/pub-cyclicsums/laws.FnJoin64", spec := "fnJoin64", apart := false }
def FnJoin64Said : Prop := fnJoin64Row.holds Try.pinned (OpenSpec.ofChange fnJoin64Spec)

/-- ITS FALSE NEIGHBOUR: 'it returns false'. Refute it at one input. -/
def fnJoin64Wrong : ChangeSpec := { name := "fnJoin64", fn := fun _ => fun
  | [d1, d2, d3, d4] => { results := [.lit (.bool false)], args := [d1, d2, d3, d4] }
  | _ => none }
def FnJoin64WrongFalsely : Prop := fnJoin64Row.holds Try.pinned (OpenSpec.ofChange fnJoin64Wrong)

/-- 'laws.FnLinear64': WHATEVER THE INPUT: true; the input reads as it did. -/
def fnLinear64Spec : ChangeSpec := { name := "fnLinear64", fn := fun _ => fun
  | [d1, d2, d3, d4, d5] => { results := [.lit (.bool true)], args := [d1, d2, d3, d4, d5] }
  | _ => none }
def fnLinear64Row : OpenClaim := { program := "ytiibhdhmkjpafaa", sum := "a045db49e373b628abe6a4318371224404581b01147f67a69074e7ced67740c2", func := "loop.example/pub-cyclicsums/laws.FnLinear64", spec := "fnLinear64", apart := false }
def FnLinear64Said : Prop := fnLinear64Row.holds Try.pinned (OpenSpec.ofChange fnLinear64Spec)

/-- ITS FALSE NEIGHBOUR: 'it returns false'. Refute it at one input. -/
def fnLinear64Wrong : ChangeSpec := { name := "fnLinear64", fn := fun _ => fun
  | [d1, d2, d3, d4, d5] => { results := [.lit (.bool false)], args := [d1, d2, d3, d4, d5] }
  | _ => none }
def FnLinear64WrongFalsely : Prop := fnLinear64Row.holds Try.pinned (OpenSpec.ofChange fnLinear64Wrong)

/-- 'laws.FnOwn64': WHATEVER THE INPUT: true; the input reads as it did. -/
def fnOwn64Spec : ChangeSpec := { name := "fnOwn64", fn := fun _ => fun
  | [d1, d2] => { results := [.lit (.bool true)], args := [d1, d2] }
  | _ => none }
def fnOwn64Row : OpenClaim := { program := "ytiibhdhmkjpafaa", sum := "a045db49e373b628abe6a4318371224404581b01147f67a69074e7ced67740c2", func := "loop.example/pub-cyclicsums/laws.FnOwn64", spec := "fnOwn64", apart := false }
def FnOwn64Said : Prop := fnOwn64Row.holds Try.pinned (OpenSpec.ofChange fnOwn64Spec)

/-- ITS FALSE NEIGHBOUR: 'it returns false'. Refute it at one input. -/
def fnOwn64Wrong : ChangeSpec := { name := "fnOwn64", fn := fun _ => fun
  | [d1, d2] => { results := [.lit (.bool false)], args := [d1, d2] }
  | _ => none }
def FnOwn64WrongFalsely : Prop := fnOwn64Row.holds Try.pinned (OpenSpec.ofChange fnOwn64Wrong)

/-- 'laws.FnRemainder64': WHATEVER THE INPUT: true; the input reads as it did. -/
def fnRemainder64Spec : ChangeSpec := { name := "fnRemainder64", fn := fun _ => fun
  | [d1, d2] => { results := [.lit (.bool true)], args := [d1, d2] }
  | _ => none }
def fnRemainder64Row : OpenClaim := { program := "ytiibhdhmkjpafaa", sum := "a045db49e373b628abe6a4318371224404581b01147f67a69074e7ced67740c2", func := "loop.example/pub-cyclicsums/laws.FnRemainder64", spec := "fnRemainder64", apart := false }
def FnRemainder64Said : Prop := fnRemainder64Row.holds Try.pinned (OpenSpec.ofChange fnRemainder64Spec)

/-- ITS FALSE NEIGHBOUR: 'it returns false'. Refute it at one input. -/
def fnRemainder64Wrong : ChangeSpec := { name := "fnRemainder64", fn := fun _ => fun
  | [d1, d2] => { results := [.lit (.bool false)], args := [d1, d2] }
  | _ => none }
def FnRemainder64WrongFalsely : Prop := fnRemainder64Row.holds Try.pinned (OpenSpec.ofChange fnRemainder64Wrong)

/- THE SECOND FORM. 'bulk': how many values and letters a reading holds, each counted each time it is reached (what is shared counts as often as it is met; a slice's spare places count too). A statement '..UptoSaid' is the law's where the arguments, and the package variables that the reading takes, are together of bulk at most 1048576: NARROWER than '..Said'. Prove '..Said' where nothing that the law and all that it calls make is longer than what came in: it says more and counts as full. Else prove '..UptoSaid'. A law counts once. -/
mutual
def uptoBulk {H : Type} : DataW H → Nat
  | .lit (.string bytes) => bytes.length + 1
  | .lit _ => 1
  | .nil => 1
  | .ptr d => uptoBulk d + 1
  | .slice elems spare => uptoBulkAll elems + uptoBulkAll spare + 1
  | .agg parts => uptoBulkAll parts + 1
  | .iface _ d => uptoBulk d + 1
  | .map entries => uptoBulkEntries entries + 1
  | .held _ => 1
def uptoBulkAll {H : Type} : List (DataW H) → Nat
  | [] => 0
  | d :: r => uptoBulk d + uptoBulkAll r
def uptoBulkEntries {H : Type} : List (Lit × DataW H) → Nat
  | [] => 0
  | x :: r => uptoBulkEntry x + uptoBulkEntries r
def uptoBulkEntry {H : Type} : Lit × DataW H → Nat
  | (.string bytes, d) => bytes.length + uptoBulk d + 1
  | (_, d) => uptoBulk d + 1
 end
def uptoSmall : (H : Type) → List (DataW H) → Bool := fun _ ds => decide (uptoBulkAll ds ≤ 1048576)
def OpenSpec.upto (s : _root_.Go.ChangeSpec) : _root_.Go.OpenSpec := { _root_.Go.OpenSpec.ofChange s with cond := some uptoSmall }

/-- 'laws.FnBurst64', WHERE WHAT IT READS IS OF BULK AT MOST 1048576: true; the input reads as it did. -/
def fnBurst64UptoRow : OpenClaim := { program := "ytiibhdhmkjpafaa", sum := "a045db49e373b628abe6a4318371224404581b01147f67a69074e7ced67740c2", func := "loop.example/pub-cyclicsums/laws.FnBurst64", spec := "fnBurst64", apart := false, narrowed := true }
def FnBurst64UptoSaid : Prop := fnBurst64UptoRow.holds Try.pinned (OpenSpec.upto fnBurst64Spec)

/-- 'laws.FnJoin64', WHERE WHAT IT READS IS OF BULK AT MOST 1048576: true; the input reads as it did. -/
def fnJoin64UptoRow : OpenClaim := { program := "ytiibhdhmkjpafaa", sum := "a045db49e373b628abe6a4318371224404581b01147f67a69074e7ced67740c2", func := "loop.example/pub-cyclicsums/laws.FnJoin64", spec := "fnJoin64", apart := false, narrowed := true }
def FnJoin64UptoSaid : Prop := fnJoin64UptoRow.holds Try.pinned (OpenSpec.upto fnJoin64Spec)

/-- 'laws.FnLinear64', WHERE WHAT IT READS IS OF BULK AT MOST 1048576: true; the input reads as it did. -/
def fnLinear64UptoRow : OpenClaim := { program := "ytiibhdhmkjpafaa", sum := "a045db49e373b628abe6a4318371224404581b01147f67a69074e7ced67740c2", func := "loop.example/pub-cyclicsums/laws.FnLinear64", spec := "fnLinear64", apart := false, narrowed := true }
def FnLinear64UptoSaid : Prop := fnLinear64UptoRow.holds Try.pinned (OpenSpec.upto fnLinear64Spec)

/-- 'laws.FnOwn64', WHERE WHAT IT READS IS OF BULK AT MOST 1048576: true; the input reads as it did. -/
def fnOwn64UptoRow : OpenClaim := { program := "ytiibhdhmkjpafaa", sum := "a045db49e373b628abe6a4318371224404581b01147f67a69074e7ced67740c2", func := "loop.example/pub-cyclicsums/laws.FnOwn64", spec := "fnOwn64", apart := false, narrowed := true }
def FnOwn64UptoSaid : Prop := fnOwn64UptoRow.holds Try.pinned (OpenSpec.upto fnOwn64Spec)

/-- 'laws.FnRemainder64', WHERE WHAT IT READS IS OF BULK AT MOST 1048576: true; the input reads as it did. -/
def fnRemainder64UptoRow : OpenClaim := { program := "ytiibhdhmkjpafaa", sum := "a045db49e373b628abe6a4318371224404581b01147f67a69074e7ced67740c2", func := "loop.example/pub-cyclicsums/laws.FnRemainder64", spec := "fnRemainder64", apart := false, narrowed := true }
def FnRemainder64UptoSaid : Prop := fnRemainder64UptoRow.holds Try.pinned (OpenSpec.upto fnRemainder64Spec)

end Rows
end Go.Proofs.Ytiibhdhmkjpafaa
