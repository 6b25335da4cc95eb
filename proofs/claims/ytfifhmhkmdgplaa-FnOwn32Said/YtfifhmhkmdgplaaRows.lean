/-
  No cell of these rows narrows 'for every input' (looked for: loops, veiled, ifaces, maps, wideKeys, modest, calm, conditions, laid).
  DERIVED. THE GIVEN ROWS OF THIS SEAT. 15 by the template 'for every input the law returns true; each argument reads behind the call as it read before'; 0 by the template 'total and deterministic' (their statements: YtfifhmhkmdgplaaTotals.lean).
  GIVEN WITH THE SEED: the statements are not yours to turn. If you find one false, say at which input.
  Laid BY PROGRAM, IN A SANDBOX (cutbox-rows.mjs): the forced cells as the released guide's own fill.sh prints them over the translation 1fcd529fe7f7368c… (all of the seat's roots in one cut). By AI agents, Wed Nov 11 2026. No macro, syntax, notation, axiom, sorry.
-/
import Derived.Test.YtfifhmhkmdgplaaChecked
import GoSem.Claim
import GoSem.ClaimJoined
import GoSem.ClaimMapViews
import Derived.JoinedTies
import Derived.KernelRfl
namespace Go.Proofs.Ytfifhmhkmdgplaa
/- THE CELL 'sum', in the pinned program and in every row, IS THE sha256 OF THE DUMP (.gsa) THAT YtfifhmhkmdgplaaProg.lean LOADS. Nothing in Lean hashes anything: it is a label: what it is worth is what the hold of that sum in a sandbox is worth. -/
noncomputable def Try.pinned : Pinned := { name := "ytfifhmhkmdgplaa", sum := "1fcd529fe7f7368c4a60e9a98e01a87295a1b63ea89c07c364b53db0c269a979", checked := Try.checked }
namespace Rows
def none {H : Type} : Left H := { results := [], args := [] }

/-- 'laws.FnExactSimpleAny': WHATEVER THE INPUT: true; the input reads as it did. -/
def fnExactSimpleAnySpec : ChangeSpec := { name := "fnExactSimpleAny", fn := fun _ => fun
  | [d1, d2, d3] => { results := [.lit (.bool true)], args := [d1, d2, d3] }
  | _ => none }
def fnExactSimpleAnyRow : OpenClaim := { program := "ytfifhmhkmdgplaa", sum := "1fcd529fe7f7368c4a60e9a98e01a87295a1b63ea89c07c364b53db0c269a979", func := "loop.example/pub-cyclicsums/laws.FnExactSimpleAny", spec := "fnExactSimpleAny", apart := false }
def FnExactSimpleAnySaid : Prop := fnExactSimpleAnyRow.holds Try.pinned (OpenSpec.ofChange fnExactSimpleAnySpec)

/-- ITS FALSE NEIGHBOUR: 'it returns false'. Refute it at one input. -/
def fnExactSimpleAnyWrong : ChangeSpec := { name := "fnExactSimpleAny", fn := fun _ => fun
  | [d1, d2, d3] => { results := [.lit (.bool false)], args := [d1, d2, d3] }
  | _ => none }
def FnExactSimpleAnyWrongFalsely : Prop := fnExactSimpleAnyRow.holds Try.pinned (OpenSpec.ofChange fnExactSimpleAnyWrong)

/-- 'laws.FnTable32': WHATEVER THE INPUT: true; the input reads as it did. -/
def fnTable32Spec : ChangeSpec := { name := "fnTable32", fn := fun _ => fun
  | [d] => { results := [.lit (.bool true)], args := [d] }
  | _ => none }
def fnTable32Row : OpenClaim := { program := "ytfifhmhkmdgplaa", sum := "1fcd529fe7f7368c4a60e9a98e01a87295a1b63ea89c07c364b53db0c269a979", func := "loop.example/pub-cyclicsums/laws.FnTable32", spec := "fnTable32", apart := false }
def FnTable32Said : Prop := fnTable32Row.holds Try.pinned (OpenSpec.ofChange fnTable32Spec)

/-- ITS FALSE NEIGHBOUR: 'it returns false'. Refute it at one input. -/
def fnTable32Wrong : ChangeSpec := { name := "fnTable32", fn := fun _ => fun
  | [d] => { results := [.lit (.bool false)], args := [d] }
  | _ => none }
def FnTable32WrongFalsely : Prop := fnTable32Row.holds Try.pinned (OpenSpec.ofChange fnTable32Wrong)

/-- 'laws.FnTableSums32': WHATEVER THE INPUT: true; the input reads as it did. -/
def fnTableSums32Spec : ChangeSpec := { name := "fnTableSums32", fn := fun _ => fun
  | [d1, d2, d3] => { results := [.lit (.bool true)], args := [d1, d2, d3] }
  | _ => none }
def fnTableSums32Row : OpenClaim := { program := "ytfifhmhkmdgplaa", sum := "1fcd529fe7f7368c4a60e9a98e01a87295a1b63ea89c07c364b53db0c269a979", func := "loop.example/pub-cyclicsums/laws.FnTableSums32", spec := "fnTableSums32", apart := false }
def FnTableSums32Said : Prop := fnTableSums32Row.holds Try.pinned (OpenSpec.ofChange fnTableSums32Spec)

/-- ITS FALSE NEIGHBOUR: 'it returns false'. Refute it at one input. -/
def fnTableSums32Wrong : ChangeSpec := { name := "fnTableSums32", fn := fun _ => fun
  | [d1, d2, d3] => { results := [.lit (.bool false)], args := [d1, d2, d3] }
  | _ => none }
def FnTableSums32WrongFalsely : Prop := fnTableSums32Row.holds Try.pinned (OpenSpec.ofChange fnTableSums32Wrong)

/-- 'laws.FnTables32': WHATEVER THE INPUT: true; the input reads as it did. -/
def fnTables32Spec : ChangeSpec := { name := "fnTables32", fn := fun _ => fun
  | [d] => { results := [.lit (.bool true)], args := [d] }
  | _ => none }
def fnTables32Row : OpenClaim := { program := "ytfifhmhkmdgplaa", sum := "1fcd529fe7f7368c4a60e9a98e01a87295a1b63ea89c07c364b53db0c269a979", func := "loop.example/pub-cyclicsums/laws.FnTables32", spec := "fnTables32", apart := false }
def FnTables32Said : Prop := fnTables32Row.holds Try.pinned (OpenSpec.ofChange fnTables32Spec)

/-- ITS FALSE NEIGHBOUR: 'it returns false'. Refute it at one input. -/
def fnTables32Wrong : ChangeSpec := { name := "fnTables32", fn := fun _ => fun
  | [d] => { results := [.lit (.bool false)], args := [d] }
  | _ => none }
def FnTables32WrongFalsely : Prop := fnTables32Row.holds Try.pinned (OpenSpec.ofChange fnTables32Wrong)

/-- 'laws.FnExactSimple': WHATEVER THE INPUT: true; the input reads as it did. -/
def fnExactSimpleSpec : ChangeSpec := { name := "fnExactSimple", fn := fun _ => fun
  | [d1, d2, d3] => { results := [.lit (.bool true)], args := [d1, d2, d3] }
  | _ => none }
def fnExactSimpleRow : OpenClaim := { program := "ytfifhmhkmdgplaa", sum := "1fcd529fe7f7368c4a60e9a98e01a87295a1b63ea89c07c364b53db0c269a979", func := "loop.example/pub-cyclicsums/laws.FnExactSimple", spec := "fnExactSimple", apart := false }
def FnExactSimpleSaid : Prop := fnExactSimpleRow.holds Try.pinned (OpenSpec.ofChange fnExactSimpleSpec)

/-- ITS FALSE NEIGHBOUR: 'it returns false'. Refute it at one input. -/
def fnExactSimpleWrong : ChangeSpec := { name := "fnExactSimple", fn := fun _ => fun
  | [d1, d2, d3] => { results := [.lit (.bool false)], args := [d1, d2, d3] }
  | _ => none }
def FnExactSimpleWrongFalsely : Prop := fnExactSimpleRow.holds Try.pinned (OpenSpec.ofChange fnExactSimpleWrong)

/-- 'laws.FnBit32': WHATEVER THE INPUT: true; the input reads as it did. -/
def fnBit32Spec : ChangeSpec := { name := "fnBit32", fn := fun _ => fun
  | [d1, d2] => { results := [.lit (.bool true)], args := [d1, d2] }
  | _ => none }
def fnBit32Row : OpenClaim := { program := "ytfifhmhkmdgplaa", sum := "1fcd529fe7f7368c4a60e9a98e01a87295a1b63ea89c07c364b53db0c269a979", func := "loop.example/pub-cyclicsums/laws.FnBit32", spec := "fnBit32", apart := false }
def FnBit32Said : Prop := fnBit32Row.holds Try.pinned (OpenSpec.ofChange fnBit32Spec)

/-- ITS FALSE NEIGHBOUR: 'it returns false'. Refute it at one input. -/
def fnBit32Wrong : ChangeSpec := { name := "fnBit32", fn := fun _ => fun
  | [d1, d2] => { results := [.lit (.bool false)], args := [d1, d2] }
  | _ => none }
def FnBit32WrongFalsely : Prop := fnBit32Row.holds Try.pinned (OpenSpec.ofChange fnBit32Wrong)

/-- 'laws.FnBurst32': WHATEVER THE INPUT: true; the input reads as it did. -/
def fnBurst32Spec : ChangeSpec := { name := "fnBurst32", fn := fun _ => fun
  | [d1, d2, d3, d4, d5] => { results := [.lit (.bool true)], args := [d1, d2, d3, d4, d5] }
  | _ => none }
def fnBurst32Row : OpenClaim := { program := "ytfifhmhkmdgplaa", sum := "1fcd529fe7f7368c4a60e9a98e01a87295a1b63ea89c07c364b53db0c269a979", func := "loop.example/pub-cyclicsums/laws.FnBurst32", spec := "fnBurst32", apart := false }
def FnBurst32Said : Prop := fnBurst32Row.holds Try.pinned (OpenSpec.ofChange fnBurst32Spec)

/-- ITS FALSE NEIGHBOUR: 'it returns false'. Refute it at one input. -/
def fnBurst32Wrong : ChangeSpec := { name := "fnBurst32", fn := fun _ => fun
  | [d1, d2, d3, d4, d5] => { results := [.lit (.bool false)], args := [d1, d2, d3, d4, d5] }
  | _ => none }
def FnBurst32WrongFalsely : Prop := fnBurst32Row.holds Try.pinned (OpenSpec.ofChange fnBurst32Wrong)

/-- 'laws.FnExactSliced': WHATEVER THE INPUT: true; the input reads as it did. -/
def fnExactSlicedSpec : ChangeSpec := { name := "fnExactSliced", fn := fun _ => fun
  | [d1, d2, d3] => { results := [.lit (.bool true)], args := [d1, d2, d3] }
  | _ => none }
def fnExactSlicedRow : OpenClaim := { program := "ytfifhmhkmdgplaa", sum := "1fcd529fe7f7368c4a60e9a98e01a87295a1b63ea89c07c364b53db0c269a979", func := "loop.example/pub-cyclicsums/laws.FnExactSliced", spec := "fnExactSliced", apart := false }
def FnExactSlicedSaid : Prop := fnExactSlicedRow.holds Try.pinned (OpenSpec.ofChange fnExactSlicedSpec)

/-- ITS FALSE NEIGHBOUR: 'it returns false'. Refute it at one input. -/
def fnExactSlicedWrong : ChangeSpec := { name := "fnExactSliced", fn := fun _ => fun
  | [d1, d2, d3] => { results := [.lit (.bool false)], args := [d1, d2, d3] }
  | _ => none }
def FnExactSlicedWrongFalsely : Prop := fnExactSlicedRow.holds Try.pinned (OpenSpec.ofChange fnExactSlicedWrong)

/-- 'laws.FnInjective32': WHATEVER THE INPUT: true; the input reads as it did. -/
def fnInjective32Spec : ChangeSpec := { name := "fnInjective32", fn := fun _ => fun
  | [d1, d2, d3, d4] => { results := [.lit (.bool true)], args := [d1, d2, d3, d4] }
  | _ => none }
def fnInjective32Row : OpenClaim := { program := "ytfifhmhkmdgplaa", sum := "1fcd529fe7f7368c4a60e9a98e01a87295a1b63ea89c07c364b53db0c269a979", func := "loop.example/pub-cyclicsums/laws.FnInjective32", spec := "fnInjective32", apart := false }
def FnInjective32Said : Prop := fnInjective32Row.holds Try.pinned (OpenSpec.ofChange fnInjective32Spec)

/-- ITS FALSE NEIGHBOUR: 'it returns false'. Refute it at one input. -/
def fnInjective32Wrong : ChangeSpec := { name := "fnInjective32", fn := fun _ => fun
  | [d1, d2, d3, d4] => { results := [.lit (.bool false)], args := [d1, d2, d3, d4] }
  | _ => none }
def FnInjective32WrongFalsely : Prop := fnInjective32Row.holds Try.pinned (OpenSpec.ofChange fnInjective32Wrong)

/-- 'laws.FnJoin32': WHATEVER THE INPUT: true; the input reads as it did. -/
def fnJoin32Spec : ChangeSpec := { name := "fnJoin32", fn := fun _ => fun
  | [d1, d2, d3, d4] => { results := [.lit (.bool true)], args := [d1, d2, d3, d4] }
  | _ => none }
def fnJoin32Row : OpenClaim := { program := "ytfifhmhkmdgplaa", sum := "1fcd529fe7f7368c4a60e9a98e01a87295a1b63ea89c07c364b53db0c269a979", func := "loop.example/pub-cyclicsums/laws.FnJoin32", spec := "fnJoin32", apart := false }
def FnJoin32Said : Prop := fnJoin32Row.holds Try.pinned (OpenSpec.ofChange fnJoin32Spec)

/-- ITS FALSE NEIGHBOUR: 'it returns false'. Refute it at one input. -/
def fnJoin32Wrong : ChangeSpec := { name := "fnJoin32", fn := fun _ => fun
  | [d1, d2, d3, d4] => { results := [.lit (.bool false)], args := [d1, d2, d3, d4] }
  | _ => none }
def FnJoin32WrongFalsely : Prop := fnJoin32Row.holds Try.pinned (OpenSpec.ofChange fnJoin32Wrong)

/-- 'laws.FnLinear32': WHATEVER THE INPUT: true; the input reads as it did. -/
def fnLinear32Spec : ChangeSpec := { name := "fnLinear32", fn := fun _ => fun
  | [d1, d2, d3, d4, d5] => { results := [.lit (.bool true)], args := [d1, d2, d3, d4, d5] }
  | _ => none }
def fnLinear32Row : OpenClaim := { program := "ytfifhmhkmdgplaa", sum := "1fcd529fe7f7368c4a60e9a98e01a87295a1b63ea89c07c364b53db0c269a979", func := "loop.example/pub-cyclicsums/laws.FnLinear32", spec := "fnLinear32", apart := false }
def FnLinear32Said : Prop := fnLinear32Row.holds Try.pinned (OpenSpec.ofChange fnLinear32Spec)

/-- ITS FALSE NEIGHBOUR: 'it returns false'. Refute it at one input. -/
def fnLinear32Wrong : ChangeSpec := { name := "fnLinear32", fn := fun _ => fun
  | [d1, d2, d3, d4, d5] => { results := [.lit (.bool false)], args := [d1, d2, d3, d4, d5] }
  | _ => none }
def FnLinear32WrongFalsely : Prop := fnLinear32Row.holds Try.pinned (OpenSpec.ofChange fnLinear32Wrong)

/-- 'laws.FnOwn32': WHATEVER THE INPUT: true; the input reads as it did. -/
def fnOwn32Spec : ChangeSpec := { name := "fnOwn32", fn := fun _ => fun
  | [d1, d2] => { results := [.lit (.bool true)], args := [d1, d2] }
  | _ => none }
def fnOwn32Row : OpenClaim := { program := "ytfifhmhkmdgplaa", sum := "1fcd529fe7f7368c4a60e9a98e01a87295a1b63ea89c07c364b53db0c269a979", func := "loop.example/pub-cyclicsums/laws.FnOwn32", spec := "fnOwn32", apart := false }
def FnOwn32Said : Prop := fnOwn32Row.holds Try.pinned (OpenSpec.ofChange fnOwn32Spec)

/-- ITS FALSE NEIGHBOUR: 'it returns false'. Refute it at one input. -/
def fnOwn32Wrong : ChangeSpec := { name := "fnOwn32", fn := fun _ => fun
  | [d1, d2] => { results := [.lit (.bool false)], args := [d1, d2] }
  | _ => none }
def FnOwn32WrongFalsely : Prop := fnOwn32Row.holds Try.pinned (OpenSpec.ofChange fnOwn32Wrong)

/-- 'laws.FnRemainder32': WHATEVER THE INPUT: true; the input reads as it did. -/
def fnRemainder32Spec : ChangeSpec := { name := "fnRemainder32", fn := fun _ => fun
  | [d1, d2] => { results := [.lit (.bool true)], args := [d1, d2] }
  | _ => none }
def fnRemainder32Row : OpenClaim := { program := "ytfifhmhkmdgplaa", sum := "1fcd529fe7f7368c4a60e9a98e01a87295a1b63ea89c07c364b53db0c269a979", func := "loop.example/pub-cyclicsums/laws.FnRemainder32", spec := "fnRemainder32", apart := false }
def FnRemainder32Said : Prop := fnRemainder32Row.holds Try.pinned (OpenSpec.ofChange fnRemainder32Spec)

/-- ITS FALSE NEIGHBOUR: 'it returns false'. Refute it at one input. -/
def fnRemainder32Wrong : ChangeSpec := { name := "fnRemainder32", fn := fun _ => fun
  | [d1, d2] => { results := [.lit (.bool false)], args := [d1, d2] }
  | _ => none }
def FnRemainder32WrongFalsely : Prop := fnRemainder32Row.holds Try.pinned (OpenSpec.ofChange fnRemainder32Wrong)

/-- 'laws.FnExactIEEE': WHATEVER THE INPUT: true; the input reads as it did. -/
def fnExactIEEESpec : ChangeSpec := { name := "fnExactIEEE", fn := fun _ => fun
  | [d1, d2] => { results := [.lit (.bool true)], args := [d1, d2] }
  | _ => none }
def fnExactIEEERow : OpenClaim := { program := "ytfifhmhkmdgplaa", sum := "1fcd529fe7f7368c4a60e9a98e01a87295a1b63ea89c07c364b53db0c269a979", func := "loop.example/pub-cyclicsums/laws.FnExactIEEE", spec := "fnExactIEEE", apart := false }
def FnExactIEEESaid : Prop := fnExactIEEERow.holds Try.pinned (OpenSpec.ofChange fnExactIEEESpec)

/-- ITS FALSE NEIGHBOUR: 'it returns false'. Refute it at one input. -/
def fnExactIEEEWrong : ChangeSpec := { name := "fnExactIEEE", fn := fun _ => fun
  | [d1, d2] => { results := [.lit (.bool false)], args := [d1, d2] }
  | _ => none }
def FnExactIEEEWrongFalsely : Prop := fnExactIEEERow.holds Try.pinned (OpenSpec.ofChange fnExactIEEEWrong)

/-- 'laws.FnRoads32': WHATEVER THE INPUT: true; the input reads as it did. -/
def fnRoads32Spec : ChangeSpec := { name := "fnRoads32", fn := fun _ => fun
  | [d1, d2, d3] => { results := [.lit (.bool true)], args := [d1, d2, d3] }
  | _ => none }
def fnRoads32Row : OpenClaim := { program := "ytfifhmhkmdgplaa", sum := "1fcd529fe7f7368c4a60e9a98e01a87295a1b63ea89c07c364b53db0c269a979", func := "loop.example/pub-cyclicsums/laws.FnRoads32", spec := "fnRoads32", apart := false }
def FnRoads32Said : Prop := fnRoads32Row.holds Try.pinned (OpenSpec.ofChange fnRoads32Spec)

/-- ITS FALSE NEIGHBOUR: 'it returns false'. Refute it at one input. -/
def fnRoads32Wrong : ChangeSpec := { name := "fnRoads32", fn := fun _ => fun
  | [d1, d2, d3] => { results := [.lit (.bool false)], args := [d1, d2, d3] }
  | _ => none }
def FnRoads32WrongFalsely : Prop := fnRoads32Row.holds Try.pinned (OpenSpec.ofChange fnRoads32Wrong)

/- THE SECOND FORM. 'bulk': how many values and letters a reading holds, each counted each time it is reached (what is shared counts as often as it is met; a slice's spare places count too). A statement '..UptoSaid' is the law's where the arguments, and the package variables that the reading takes, are together of bulk at most 1048576: NARROWER than '..Said'. Prove '..Said' where nothing that the law and all that it calls make is longer than what came in: it says more and counts as full. Else prove '..UptoSaid'. A law counts once. -/
mutual
def uptoBulk {H : Type} : DataW H → Nat
  | .lit (.string bytes) => bytes.length + 1
  | .lit _ => 1
  | .nil => 1
  | .ptr d => uptoBulk d + 1
  | .slice elems spare => uptoBulkAll elems + uptoBulkAll spare + 1
  | .agg parts => uptoBulkAll parts + 1
  | .iface _ d => uptoBulk d + 1
  | .map entries => uptoBulkEntries entries + 1
  | .held _ => 1
def uptoBulkAll {H : Type} : List (DataW H) → Nat
  | [] => 0
  | d :: r => uptoBulk d + uptoBulkAll r
def uptoBulkEntries {H : Type} : List (Lit × DataW H) → Nat
  | [] => 0
  | x :: r => uptoBulkEntry x + uptoBulkEntries r
def uptoBulkEntry {H : Type} : Lit × DataW H → Nat
  | (.string bytes, d) => bytes.length + uptoBulk d + 1
  | (_, d) => uptoBulk d + 1
 end
def uptoSmall : (H : Type) → List (DataW H) → Bool := fun _ ds => decide (uptoBulkAll ds ≤ 1048576)
def OpenSpec.upto (s : _root_.Go.ChangeSpec) : _root_.Go.OpenSpec := { _root_.Go.OpenSpec.ofChange s with cond := some uptoSmall }

/-- 'laws.FnExactSimpleAny', WHERE WHAT IT READS IS OF BULK AT MOST 1048576: true; the input reads as it did. -/
def fnExactSimpleAnyUptoRow : OpenClaim := { program := "ytfifhmhkmdgplaa", sum := "1fcd529fe7f7368c4a60e9a98e01a87295a1b63ea89c07c364b53db0c269a979", func := "loop.example/pub-cyclicsums/laws.FnExactSimpleAny", spec := "fnExactSimpleAny", apart := false, narrowed := true }
def FnExactSimpleAnyUptoSaid : Prop := fnExactSimpleAnyUptoRow.holds Try.pinned (OpenSpec.upto fnExactSimpleAnySpec)

/-- 'laws.FnTable32', WHERE WHAT IT READS IS OF BULK AT MOST 1048576: true; the input reads as it did. -/
def fnTable32UptoRow : OpenClaim := { program := "ytfifhmhkmdgplaa", sum := "1fcd529fe7f7368c4a60e9a98e01a87295a1b63ea89c07c364b53db0c269a979", func := "loop.example/pub-cyclicsums/laws.FnTable32", spec := "fnTable32", apart := false, narrowed := true }
def FnTable32UptoSaid : Prop := fnTable32UptoRow.holds Try.pinned (OpenSpec.upto fnTable32Spec)

/-- 'laws.FnTableSums32', WHERE WHAT IT READS IS OF BULK AT MOST 1048576: true; the input reads as it did. -/
def fnTableSums32UptoRow : OpenClaim := { program := "ytfifhmhkmdgplaa", sum := "1fcd529fe7f7368c4a60e9a98e01a87295a1b63ea89c07c364b53db0c269a979", func := "loop.example/pub-cyclicsums/laws.FnTableSums32", spec := "fnTableSums32", apart := false, narrowed := true }
def FnTableSums32UptoSaid : Prop := fnTableSums32UptoRow.holds Try.pinned (OpenSpec.upto fnTableSums32Spec)

/-- 'laws.FnTables32', WHERE WHAT IT READS IS OF BULK AT MOST 1048576: true; the input reads as it did. -/
def fnTables32UptoRow : OpenClaim := { program := "ytfifhmhkmdgplaa", sum := "1fcd529fe7f7368c4a60e9a98e01a87295a1b63ea89c07c364b53db0c269a979", func := "loop.example/pub-cyclicsums/laws.FnTables32", spec := "fnTables32", apart := false, narrowed := true }
def FnTables32UptoSaid : Prop := fnTables32UptoRow.holds Try.pinned (OpenSpec.upto fnTables32Spec)

/-- 'laws.FnExactSimple', WHERE WHAT IT READS IS OF BULK AT MOST 1048576: true; the input reads as it did. -/
def fnExactSimpleUptoRow : OpenClaim := { program := "ytfifhmhkmdgplaa", sum := "1fcd529fe7f7368c4a60e9a98e01a87295a1b63ea89c07c364b53db0c269a979", func := "loop.example/pub-cyclicsums/laws.FnExactSimple", spec := "fnExactSimple", apart := false, narrowed := true }
def FnExactSimpleUptoSaid : Prop := fnExactSimpleUptoRow.holds Try.pinned (OpenSpec.upto fnExactSimpleSpec)

/-- 'laws.FnBit32', WHERE WHAT IT READS IS OF BULK AT MOST 1048576: true; the input reads as it did. -/
def fnBit32UptoRow : OpenClaim := { program := "ytfifhmhkmdgplaa", sum := "1fcd529fe7f7368c4a60e9a98e01a87295a1b63ea89c07c364b53db0c269a979", func := "loop.example/pub-cyclicsums/laws.FnBit32", spec := "fnBit32", apart := false, narrowed := true }
def FnBit32UptoSaid : Prop := fnBit32UptoRow.holds Try.pinned (OpenSpec.upto fnBit32Spec)

/-- 'laws.FnBurst32', WHERE WHAT IT READS IS OF BULK AT MOST 1048576: true; the input reads as it did. -/
def fnBurst32UptoRow : OpenClaim := { program := "ytfifhmhkmdgplaa", sum := "1fcd529fe7f7368c4a60e9a98e01a87295a1b63ea89c07c364b53db0c269a979", func := "loop.example/pub-cyclicsums/laws.FnBurst32", spec := "fnBurst32", apart := false, narrowed := true }
def FnBurst32UptoSaid : Prop := fnBurst32UptoRow.holds Try.pinned (OpenSpec.upto fnBurst32Spec)

/-- 'laws.FnExactSliced', WHERE WHAT IT READS IS OF BULK AT MOST 1048576: true; the input reads as it did. -/
def fnExactSlicedUptoRow : OpenClaim := { program := "ytfifhmhkmdgplaa", sum := "1fcd529fe7f7368c4a60e9a98e01a87295a1b63ea89c07c364b53db0c269a979", func := "loop.example/pub-cyclicsums/laws.FnExactSliced", spec := "fnExactSliced", apart := false, narrowed := true }
def FnExactSlicedUptoSaid : Prop := fnExactSlicedUptoRow.holds Try.pinned (OpenSpec.upto fnExactSlicedSpec)

/-- 'laws.FnInjective32', WHERE WHAT IT READS IS OF BULK AT MOST 1048576: true; the input reads as it did. -/
def fnInjective32UptoRow : OpenClaim := { program := "ytfifhmhkmdgplaa", sum := "1fcd529fe7f7368c4a60e9a98e01a87295a1b63ea89c07c364b53db0c269a979", func := "loop.example/pub-cyclicsums/laws.FnInjective32", spec := "fnInjective32", apart := false, narrowed := true }
def FnInjective32UptoSaid : Prop := fnInjective32UptoRow.holds Try.pinned (OpenSpec.upto fnInjective32Spec)

/-- 'laws.FnJoin32', WHERE WHAT IT READS IS OF BULK AT MOST 1048576: true; the input reads as it did. -/
def fnJoin32UptoRow : OpenClaim := { program := "ytfifhmhkmdgplaa", sum := "1fcd529fe7f7368c4a60e9a98e01a87295a1b63ea89c07c364b53db0c269a979", func := "loop.example/pub-cyclicsums/laws.FnJoin32", spec := "fnJoin32", apart := false, narrowed := true }
def FnJoin32UptoSaid : Prop := fnJoin32UptoRow.holds Try.pinned (OpenSpec.upto fnJoin32Spec)

/-- 'laws.FnLinear32', WHERE WHAT IT READS IS OF BULK AT MOST 1048576: true; the input reads as it did. -/
def fnLinear32UptoRow : OpenClaim := { program := "ytfifhmhkmdgplaa", sum := "1fcd529fe7f7368c4a60e9a98e01a87295a1b63ea89c07c364b53db0c269a979", func := "loop.example/pub-cyclicsums/laws.FnLinear32", spec := "fnLinear32", apart := false, narrowed := true }
def FnLinear32UptoSaid : Prop := fnLinear32UptoRow.holds Try.pinned (OpenSpec.upto fnLinear32Spec)

/-- 'laws.FnOwn32', WHERE WHAT IT READS IS OF BULK AT MOST 1048576: true; the input reads as it did. -/
def fnOwn32UptoRow : OpenClaim := { program := "ytfifhmhkmdgplaa", sum := "1fcd529fe7f7368c4a60e9a98e01a87295a1b63ea89c07c364b53db0c269a979", func := "loop.example/pub-cyclicsums/laws.FnOwn32", spec := "fnOwn32", apart := false, narrowed := true }
def FnOwn32UptoSaid : Prop := fnOwn32UptoRow.holds Try.pinned (OpenSpec.upto fnOwn32Spec)

/-- 'laws.FnRemainder32', WHERE WHAT IT READS IS OF BULK AT MOST 1048576: true; the input reads as it did. -/
def fnRemainder32UptoRow : OpenClaim := { program := "ytfifhmhkmdgplaa", sum := "1fcd529fe7f7368c4a60e9a98e01a87295a1b63ea89c07c364b53db0c269a979", func := "loop.example/pub-cyclicsums/laws.FnRemainder32", spec := "fnRemainder32", apart := false, narrowed := true }
def FnRemainder32UptoSaid : Prop := fnRemainder32UptoRow.holds Try.pinned (OpenSpec.upto fnRemainder32Spec)

/-- 'laws.FnExactIEEE', WHERE WHAT IT READS IS OF BULK AT MOST 1048576: true; the input reads as it did. -/
def fnExactIEEEUptoRow : OpenClaim := { program := "ytfifhmhkmdgplaa", sum := "1fcd529fe7f7368c4a60e9a98e01a87295a1b63ea89c07c364b53db0c269a979", func := "loop.example/pub-cyclicsums/laws.FnExactIEEE", spec := "fnExactIEEE", apart := false, narrowed := true }
def FnExactIEEEUptoSaid : Prop := fnExactIEEEUptoRow.holds Try.pinned (OpenSpec.upto fnExactIEEESpec)

/-- 'laws.FnRoads32', WHERE WHAT IT READS IS OF BULK AT MOST 1048576: true; the input reads as it did. -/
def fnRoads32UptoRow : OpenClaim := { program := "ytfifhmhkmdgplaa", sum := "1fcd529fe7f7368c4a60e9a98e01a87295a1b63ea89c07c364b53db0c269a979", func := "loop.example/pub-cyclicsums/laws.FnRoads32", spec := "fnRoads32", apart := false, narrowed := true }
def FnRoads32UptoSaid : Prop := fnRoads32UptoRow.holds Try.pinned (OpenSpec.upto fnRoads32Spec)

end Rows
end Go.Proofs.Ytfifhmhkmdgplaa
