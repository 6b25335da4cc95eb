/-
  No cell of these rows narrows 'for every input' (looked for: loops, veiled, ifaces, maps, wideKeys, modest, calm, conditions, laid).
  DERIVED. THE GIVEN ROWS OF THIS SEAT. 9 by the template 'for every input the law returns true; each argument reads behind the call as it read before'; 0 by the template 'total and deterministic' (their statements: YtffpimiompibcaaTotals.lean).
  GIVEN WITH THE SEED: the statements are not yours to turn. If you find one false, say at which input.
  Laid BY PROGRAM, IN A SANDBOX (cutbox-rows.mjs): the forced cells as the released guide's own fill.sh prints them over the translation 2cd278bab6acb5fc… (all of the seat's roots in one cut). By AI agents, Wed Nov 11 2026. No macro, syntax, notation, axiom, sorry.
-/
import Derived.Test.YtffpimiompibcaaChecked
import GoSem.Claim
import GoSem.ClaimJoined
import GoSem.ClaimMapViews
import Derived.JoinedTies
import Derived.KernelRfl
namespace Go.Proofs.Ytffpimiompibcaa
/- THE CELL 'sum', in the pinned program and in every row, IS THE sha256 OF THE DUMP (.gsa) THAT YtffpimiompibcaaProg.lean LOADS. Nothing in Lean hashes anything: it is a label: what it is worth is what the hold of that sum in a sandbox is worth. -/
noncomputable def Try.pinned : Pinned := { name := "ytffpimiompibcaa", sum := "2cd278bab6acb5fcc93b2f2adbc717c455db923fd14968527fdb92cc8f26741f", checked := Try.checked }
namespace Rows
def none {H : Type} : Left H := { results := [], args := [] }

/-- 'laws.FnTables64': WHATEVER THE INPUT: true; the input reads as it did. -/
def fnTables64Spec : ChangeSpec := { name := "fnTables64", fn := fun _ => fun
  | [d] => { results := [.lit (.bool true)], args := [d] }
  | _ => none }
def fnTables64Row : OpenClaim := { program := "ytffpimiompibcaa", sum := "2cd278bab6acb5fcc93b2f2adbc717c455db923fd14968527fdb92cc8f26741f", func := "loop.example/pub-cyclicsums/laws.FnTables64", spec := "fnTables64", apart := false }
def FnTables64Said : Prop := fnTables64Row.holds Try.pinned (OpenSpec.ofChange fnTables64Spec)

/-- ITS FALSE NEIGHBOUR: 'it returns false'. Refute it at one input. -/
def fnTables64Wrong : ChangeSpec := { name := "fnTables64", fn := fun _ => fun
  | [d] => { results := [.lit (.bool false)], args := [d] }
  | _ => none }
def FnTables64WrongFalsely : Prop := fnTables64Row.holds Try.pinned (OpenSpec.ofChange fnTables64Wrong)

/-- 'laws.FnTable64': WHATEVER THE INPUT: true; the input reads as it did. -/
def fnTable64Spec : ChangeSpec := { name := "fnTable64", fn := fun _ => fun
  | [d] => { results := [.lit (.bool true)], args := [d] }
  | _ => none }
def fnTable64Row : OpenClaim := { program := "ytffpimiompibcaa", sum := "2cd278bab6acb5fcc93b2f2adbc717c455db923fd14968527fdb92cc8f26741f", func := "loop.example/pub-cyclicsums/laws.FnTable64", spec := "fnTable64", apart := false }
def FnTable64Said : Prop := fnTable64Row.holds Try.pinned (OpenSpec.ofChange fnTable64Spec)

/-- ITS FALSE NEIGHBOUR: 'it returns false'. Refute it at one input. -/
def fnTable64Wrong : ChangeSpec := { name := "fnTable64", fn := fun _ => fun
  | [d] => { results := [.lit (.bool false)], args := [d] }
  | _ => none }
def FnTable64WrongFalsely : Prop := fnTable64Row.holds Try.pinned (OpenSpec.ofChange fnTable64Wrong)

/-- 'laws.FnTableSums64': WHATEVER THE INPUT: true; the input reads as it did. -/
def fnTableSums64Spec : ChangeSpec := { name := "fnTableSums64", fn := fun _ => fun
  | [d1, d2, d3] => { results := [.lit (.bool true)], args := [d1, d2, d3] }
  | _ => none }
def fnTableSums64Row : OpenClaim := { program := "ytffpimiompibcaa", sum := "2cd278bab6acb5fcc93b2f2adbc717c455db923fd14968527fdb92cc8f26741f", func := "loop.example/pub-cyclicsums/laws.FnTableSums64", spec := "fnTableSums64", apart := false }
def FnTableSums64Said : Prop := fnTableSums64Row.holds Try.pinned (OpenSpec.ofChange fnTableSums64Spec)

/-- ITS FALSE NEIGHBOUR: 'it returns false'. Refute it at one input. -/
def fnTableSums64Wrong : ChangeSpec := { name := "fnTableSums64", fn := fun _ => fun
  | [d1, d2, d3] => { results := [.lit (.bool false)], args := [d1, d2, d3] }
  | _ => none }
def FnTableSums64WrongFalsely : Prop := fnTableSums64Row.holds Try.pinned (OpenSpec.ofChange fnTableSums64Wrong)

/-- 'laws.FnTwoTables64': WHATEVER THE INPUT: true; the input reads as it did. -/
def fnTwoTables64Spec : ChangeSpec := { name := "fnTwoTables64", fn := fun _ => fun
  | [d] => { results := [.lit (.bool true)], args := [d] }
  | _ => none }
def fnTwoTables64Row : OpenClaim := { program := "ytffpimiompibcaa", sum := "2cd278bab6acb5fcc93b2f2adbc717c455db923fd14968527fdb92cc8f26741f", func := "loop.example/pub-cyclicsums/laws.FnTwoTables64", spec := "fnTwoTables64", apart := false }
def FnTwoTables64Said : Prop := fnTwoTables64Row.holds Try.pinned (OpenSpec.ofChange fnTwoTables64Spec)

/-- ITS FALSE NEIGHBOUR: 'it returns false'. Refute it at one input. -/
def fnTwoTables64Wrong : ChangeSpec := { name := "fnTwoTables64", fn := fun _ => fun
  | [d] => { results := [.lit (.bool false)], args := [d] }
  | _ => none }
def FnTwoTables64WrongFalsely : Prop := fnTwoTables64Row.holds Try.pinned (OpenSpec.ofChange fnTwoTables64Wrong)

/-- 'laws.FnBit64': WHATEVER THE INPUT: true; the input reads as it did. -/
def fnBit64Spec : ChangeSpec := { name := "fnBit64", fn := fun _ => fun
  | [d1, d2] => { results := [.lit (.bool true)], args := [d1, d2] }
  | _ => none }
def fnBit64Row : OpenClaim := { program := "ytffpimiompibcaa", sum := "2cd278bab6acb5fcc93b2f2adbc717c455db923fd14968527fdb92cc8f26741f", func := "loop.example/pub-cyclicsums/laws.FnBit64", spec := "fnBit64", apart := false }
def FnBit64Said : Prop := fnBit64Row.holds Try.pinned (OpenSpec.ofChange fnBit64Spec)

/-- ITS FALSE NEIGHBOUR: 'it returns false'. Refute it at one input. -/
def fnBit64Wrong : ChangeSpec := { name := "fnBit64", fn := fun _ => fun
  | [d1, d2] => { results := [.lit (.bool false)], args := [d1, d2] }
  | _ => none }
def FnBit64WrongFalsely : Prop := fnBit64Row.holds Try.pinned (OpenSpec.ofChange fnBit64Wrong)

/-- 'laws.FnExactNamed64': WHATEVER THE INPUT: true; the input reads as it did. -/
def fnExactNamed64Spec : ChangeSpec := { name := "fnExactNamed64", fn := fun _ => fun
  | [d1, d2] => { results := [.lit (.bool true)], args := [d1, d2] }
  | _ => none }
def fnExactNamed64Row : OpenClaim := { program := "ytffpimiompibcaa", sum := "2cd278bab6acb5fcc93b2f2adbc717c455db923fd14968527fdb92cc8f26741f", func := "loop.example/pub-cyclicsums/laws.FnExactNamed64", spec := "fnExactNamed64", apart := false }
def FnExactNamed64Said : Prop := fnExactNamed64Row.holds Try.pinned (OpenSpec.ofChange fnExactNamed64Spec)

/-- ITS FALSE NEIGHBOUR: 'it returns false'. Refute it at one input. -/
def fnExactNamed64Wrong : ChangeSpec := { name := "fnExactNamed64", fn := fun _ => fun
  | [d1, d2] => { results := [.lit (.bool false)], args := [d1, d2] }
  | _ => none }
def FnExactNamed64WrongFalsely : Prop := fnExactNamed64Row.holds Try.pinned (OpenSpec.ofChange fnExactNamed64Wrong)

/-- 'laws.FnExactUpdate64': WHATEVER THE INPUT: true; the input reads as it did. -/
def fnExactUpdate64Spec : ChangeSpec := { name := "fnExactUpdate64", fn := fun _ => fun
  | [d1, d2, d3] => { results := [.lit (.bool true)], args := [d1, d2, d3] }
  | _ => none }
def fnExactUpdate64Row : OpenClaim := { program := "ytffpimiompibcaa", sum := "2cd278bab6acb5fcc93b2f2adbc717c455db923fd14968527fdb92cc8f26741f", func := "loop.example/pub-cyclicsums/laws.FnExactUpdate64", spec := "fnExactUpdate64", apart := false }
def FnExactUpdate64Said : Prop := fnExactUpdate64Row.holds Try.pinned (OpenSpec.ofChange fnExactUpdate64Spec)

/-- ITS FALSE NEIGHBOUR: 'it returns false'. Refute it at one input. -/
def fnExactUpdate64Wrong : ChangeSpec := { name := "fnExactUpdate64", fn := fun _ => fun
  | [d1, d2, d3] => { results := [.lit (.bool false)], args := [d1, d2, d3] }
  | _ => none }
def FnExactUpdate64WrongFalsely : Prop := fnExactUpdate64Row.holds Try.pinned (OpenSpec.ofChange fnExactUpdate64Wrong)

/-- 'laws.FnInjective64': WHATEVER THE INPUT: true; the input reads as it did. -/
def fnInjective64Spec : ChangeSpec := { name := "fnInjective64", fn := fun _ => fun
  | [d1, d2, d3, d4] => { results := [.lit (.bool true)], args := [d1, d2, d3, d4] }
  | _ => none }
def fnInjective64Row : OpenClaim := { program := "ytffpimiompibcaa", sum := "2cd278bab6acb5fcc93b2f2adbc717c455db923fd14968527fdb92cc8f26741f", func := "loop.example/pub-cyclicsums/laws.FnInjective64", spec := "fnInjective64", apart := false }
def FnInjective64Said : Prop := fnInjective64Row.holds Try.pinned (OpenSpec.ofChange fnInjective64Spec)

/-- ITS FALSE NEIGHBOUR: 'it returns false'. Refute it at one input. -/
def fnInjective64Wrong : ChangeSpec := { name := "fnInjective64", fn := fun _ => fun
  | [d1, d2, d3, d4] => { results := [.lit (.bool false)], args := [d1, d2, d3, d4] }
  | _ => none }
def FnInjective64WrongFalsely : Prop := fnInjective64Row.holds Try.pinned (OpenSpec.ofChange fnInjective64Wrong)

/-- 'laws.FnExactChecksum64': WHATEVER THE INPUT: true; the input reads as it did. -/
def fnExactChecksum64Spec : ChangeSpec := { name := "fnExactChecksum64", fn := fun _ => fun
  | [d1, d2] => { results := [.lit (.bool true)], args := [d1, d2] }
  | _ => none }
def fnExactChecksum64Row : OpenClaim := { program := "ytffpimiompibcaa", sum := "2cd278bab6acb5fcc93b2f2adbc717c455db923fd14968527fdb92cc8f26741f", func := "loop.example/pub-cyclicsums/laws.FnExactChecksum64", spec := "fnExactChecksum64", apart := false }
def FnExactChecksum64Said : Prop := fnExactChecksum64Row.holds Try.pinned (OpenSpec.ofChange fnExactChecksum64Spec)

/-- ITS FALSE NEIGHBOUR: 'it returns false'. Refute it at one input. -/
def fnExactChecksum64Wrong : ChangeSpec := { name := "fnExactChecksum64", fn := fun _ => fun
  | [d1, d2] => { results := [.lit (.bool false)], args := [d1, d2] }
  | _ => none }
def FnExactChecksum64WrongFalsely : Prop := fnExactChecksum64Row.holds Try.pinned (OpenSpec.ofChange fnExactChecksum64Wrong)

/- THE SECOND FORM. 'bulk': how many values and letters a reading holds, each counted each time it is reached (what is shared counts as often as it is met; a slice's spare places count too). A statement '..UptoSaid' is the law's where the arguments, and the package variables that the reading takes, are together of bulk at most 1048576: NARROWER than '..Said'. Prove '..Said' where nothing that the law and all that it calls make is longer than what came in: it says more and counts as full. Else prove '..UptoSaid'. A law counts once. -/
mutual
def uptoBulk {H : Type} : DataW H → Nat
  | .lit (.string bytes) => bytes.length + 1
  | .lit _ => 1
  | .nil => 1
  | .ptr d => uptoBulk d + 1
  | .slice elems spare => uptoBulkAll elems + uptoBulkAll spare + 1
  | .agg parts => uptoBulkAll parts + 1
  | .iface _ d => uptoBulk d + 1
  | .map entries => uptoBulkEntries entries + 1
  | .held _ => 1
def uptoBulkAll {H : Type} : List (DataW H) → Nat
  | [] => 0
  | d :: r => uptoBulk d + uptoBulkAll r
def uptoBulkEntries {H : Type} : List (Lit × DataW H) → Nat
  | [] => 0
  | x :: r => uptoBulkEntry x + uptoBulkEntries r
def uptoBulkEntry {H : Type} : Lit × DataW H → Nat
  | (.string bytes, d) => bytes.length + uptoBulk d + 1
  | (_, d) => uptoBulk d + 1
 end
def uptoSmall : (H : Type) → List (DataW H) → Bool := fun _ ds => decide (uptoBulkAll ds ≤ 1048576)
def OpenSpec.upto (s : _root_.Go.ChangeSpec) : _root_.Go.OpenSpec := { _root_.Go.OpenSpec.ofChange s with cond := some uptoSmall }

/-- 'laws.FnTables64', WHERE WHAT IT READS IS OF BULK AT MOST 1048576: true; the input reads as it did. -/
def fnTables64UptoRow : OpenClaim := { program := "ytffpimiompibcaa", sum := "2cd278bab6acb5fcc93b2f2adbc717c455db923fd14968527fdb92cc8f26741f", func := "loop.example/pub-cyclicsums/laws.FnTables64", spec := "fnTables64", apart := false, narrowed := true }
def FnTables64UptoSaid : Prop := fnTables64UptoRow.holds Try.pinned (OpenSpec.upto fnTables64Spec)

/-- 'laws.FnTable64', WHERE WHAT IT READS IS OF BULK AT MOST 1048576: true; the input reads as it did. -/
def fnTable64UptoRow : OpenClaim := { program := "ytffpimiompibcaa", sum := "2cd278bab6acb5fcc93b2f2adbc717c455db923fd14968527fdb92cc8f26741f", func := "loop.example/pub-cyclicsums/laws.FnTable64", spec := "fnTable64", apart := false, narrowed := true }
def FnTable64UptoSaid : Prop := fnTable64UptoRow.holds Try.pinned (OpenSpec.upto fnTable64Spec)

/-- 'laws.FnTableSums64', WHERE WHAT IT READS IS OF BULK AT MOST 1048576: true; the input reads as it did. -/
def fnTableSums64UptoRow : OpenClaim := { program := "ytffpimiompibcaa", sum := "2cd278bab6acb5fcc93b2f2adbc717c455db923fd14968527fdb92cc8f26741f", func := "loop.example/pub-cyclicsums/laws.FnTableSums64", spec := "fnTableSums64", apart := false, narrowed := true }
def FnTableSums64UptoSaid : Prop := fnTableSums64UptoRow.holds Try.pinned (OpenSpec.upto fnTableSums64Spec)

/-- 'laws.FnTwoTables64', WHERE WHAT IT READS IS OF BULK AT MOST 1048576: true; the input reads as it did. -/
def fnTwoTables64UptoRow : OpenClaim := { program := "ytffpimiompibcaa", sum := "2cd278bab6acb5fcc93b2f2adbc717c455db923fd14968527fdb92cc8f26741f", func := "loop.example/pub-cyclicsums/laws.FnTwoTables64", spec := "fnTwoTables64", apart := false, narrowed := true }
def FnTwoTables64UptoSaid : Prop := fnTwoTables64UptoRow.holds Try.pinned (OpenSpec.upto fnTwoTables64Spec)

/-- 'laws.FnBit64', WHERE WHAT IT READS IS OF BULK AT MOST 1048576: true; the input reads as it did. -/
def fnBit64UptoRow : OpenClaim := { program := "ytffpimiompibcaa", sum := "2cd278bab6acb5fcc93b2f2adbc717c455db923fd14968527fdb92cc8f26741f", func := "loop.example/pub-cyclicsums/laws.FnBit64", spec := "fnBit64", apart := false, narrowed := true }
def FnBit64UptoSaid : Prop := fnBit64UptoRow.holds Try.pinned (OpenSpec.upto fnBit64Spec)

/-- 'laws.FnExactNamed64', WHERE WHAT IT READS IS OF BULK AT MOST 1048576: true; the input reads as it did. -/
def fnExactNamed64UptoRow : OpenClaim := { program := "ytffpimiompibcaa", sum := "2cd278bab6acb5fcc93b2f2adbc717c455db923fd14968527fdb92cc8f26741f", func := "loop.example/pub-cyclicsums/laws.FnExactNamed64", spec := "fnExactNamed64", apart := false, narrowed := true }
def FnExactNamed64UptoSaid : Prop := fnExactNamed64UptoRow.holds Try.pinned (OpenSpec.upto fnExactNamed64Spec)

/-- 'laws.FnExactUpdate64', WHERE WHAT IT READS IS OF BULK AT MOST 1048576: true; the input reads as it did. -/
def fnExactUpdate64UptoRow : OpenClaim := { program := "ytffpimiompibcaa", sum := "2cd278bab6acb5fcc93b2f2adbc717c455db923fd14968527fdb92cc8f26741f", func := "loop.example/pub-cyclicsums/laws.FnExactUpdate64", spec := "fnExactUpdate64", apart := false, narrowed := true }
def FnExactUpdate64UptoSaid : Prop := fnExactUpdate64UptoRow.holds Try.pinned (OpenSpec.upto fnExactUpdate64Spec)

/-- 'laws.FnInjective64', WHERE WHAT IT READS IS OF BULK AT MOST 1048576: true; the input reads as it did. -/
def fnInjective64UptoRow : OpenClaim := { program := "ytffpimiompibcaa", sum := "2cd278bab6acb5fcc93b2f2adbc717c455db923fd14968527fdb92cc8f26741f", func := "loop.example/pub-cyclicsums/laws.FnInjective64", spec := "fnInjective64", apart := false, narrowed := true }
def FnInjective64UptoSaid : Prop := fnInjective64UptoRow.holds Try.pinned (OpenSpec.upto fnInjective64Spec)

/-- 'laws.FnExactChecksum64', WHERE WHAT IT READS IS OF BULK AT MOST 1048576: true; the input reads as it did. -/
def fnExactChecksum64UptoRow : OpenClaim := { program := "ytffpimiompibcaa", sum := "2cd278bab6acb5fcc93b2f2adbc717c455db923fd14968527fdb92cc8f26741f", func := "loop.example/pub-cyclicsums/laws.FnExactChecksum64", spec := "fnExactChecksum64", apart := false, narrowed := true }
def FnExactChecksum64UptoSaid : Prop := fnExactChecksum64UptoRow.holds Try.pinned (OpenSpec.upto fnExactChecksum64Spec)

end Rows
end Go.Proofs.Ytffpimiompibcaa
