/-
  No cell of these rows narrows 'for every input' (looked for: loops, veiled, ifaces, maps, wideKeys, modest, calm, conditions, laid).
  DERIVED. THE GIVEN ROWS OF THIS SEAT. 4 by the template 'for every input the law returns true; each argument reads behind the call as it read before'; 0 by the template 'total and deterministic' (their statements: YtocolnikidfbnaaTotals.lean).
  GIVEN WITH THE SEED: the statements are not yours to turn. If you find one false, say at which input.
  Laid BY PROGRAM, IN A SANDBOX (cutbox-rows.mjs): the forced cells as the released guide's own fill.sh prints them over the translation e588fa6c514f6dbd… (all of the seat's roots in one cut). By AI agents, Wed Nov 11 2026. No macro, syntax, notation, axiom, sorry.
-/
import Derived.Test.YtocolnikidfbnaaChecked
import GoSem.Claim
import GoSem.ClaimJoined
import GoSem.ClaimMapViews
import Derived.JoinedTies
import Derived.KernelRfl
namespace Go.Proofs.Ytocolnikidfbnaa
/- THE CELL 'sum', in the pinned program and in every row, IS THE sha256 OF THE DUMP (.gsa) THAT YtocolnikidfbnaaProg.lean LOADS. Nothing in Lean hashes anything: it is a label: what it is worth is what the hold of that sum in a sandbox is worth. -/
noncomputable def Try.pinned : Pinned := { name := "ytocolnikidfbnaa", sum := "e588fa6c514f6dbdcec1d5cd52de4666570c9aa46d99027b5f261d3f35d5d453", checked := Try.checked }
namespace Rows
def none {H : Type} : Left H := { results := [], args := [] }

/-- 'laws.FnMarshalSame64': WHATEVER THE INPUT: true; the input reads as it did. -/
def fnMarshalSame64Spec : ChangeSpec := { name := "fnMarshalSame64", fn := fun _ => fun
  | [d1, d2, d3] => { results := [.lit (.bool true)], args := [d1, d2, d3] }
  | _ => none }
def fnMarshalSame64Row : OpenClaim := { program := "ytocolnikidfbnaa", sum := "e588fa6c514f6dbdcec1d5cd52de4666570c9aa46d99027b5f261d3f35d5d453", func := "loop.example/pub-cyclicsums/laws.FnMarshalSame64", spec := "fnMarshalSame64", apart := false }
def FnMarshalSame64Said : Prop := fnMarshalSame64Row.holds Try.pinned (OpenSpec.ofChange fnMarshalSame64Spec)

/-- ITS FALSE NEIGHBOUR: 'it returns false'. Refute it at one input. -/
def fnMarshalSame64Wrong : ChangeSpec := { name := "fnMarshalSame64", fn := fun _ => fun
  | [d1, d2, d3] => { results := [.lit (.bool false)], args := [d1, d2, d3] }
  | _ => none }
def FnMarshalSame64WrongFalsely : Prop := fnMarshalSame64Row.holds Try.pinned (OpenSpec.ofChange fnMarshalSame64Wrong)

/-- 'laws.FnMarshalCut64': WHATEVER THE INPUT: true; the input reads as it did. -/
def fnMarshalCut64Spec : ChangeSpec := { name := "fnMarshalCut64", fn := fun _ => fun
  | [d1, d2, d3, d4] => { results := [.lit (.bool true)], args := [d1, d2, d3, d4] }
  | _ => none }
def fnMarshalCut64Row : OpenClaim := { program := "ytocolnikidfbnaa", sum := "e588fa6c514f6dbdcec1d5cd52de4666570c9aa46d99027b5f261d3f35d5d453", func := "loop.example/pub-cyclicsums/laws.FnMarshalCut64", spec := "fnMarshalCut64", apart := false }
def FnMarshalCut64Said : Prop := fnMarshalCut64Row.holds Try.pinned (OpenSpec.ofChange fnMarshalCut64Spec)

/-- ITS FALSE NEIGHBOUR: 'it returns false'. Refute it at one input. -/
def fnMarshalCut64Wrong : ChangeSpec := { name := "fnMarshalCut64", fn := fun _ => fun
  | [d1, d2, d3, d4] => { results := [.lit (.bool false)], args := [d1, d2, d3, d4] }
  | _ => none }
def FnMarshalCut64WrongFalsely : Prop := fnMarshalCut64Row.holds Try.pinned (OpenSpec.ofChange fnMarshalCut64Wrong)

/-- 'laws.FnMarshalBack64': WHATEVER THE INPUT: true; the input reads as it did. -/
def fnMarshalBack64Spec : ChangeSpec := { name := "fnMarshalBack64", fn := fun _ => fun
  | [d1, d2, d3] => { results := [.lit (.bool true)], args := [d1, d2, d3] }
  | _ => none }
def fnMarshalBack64Row : OpenClaim := { program := "ytocolnikidfbnaa", sum := "e588fa6c514f6dbdcec1d5cd52de4666570c9aa46d99027b5f261d3f35d5d453", func := "loop.example/pub-cyclicsums/laws.FnMarshalBack64", spec := "fnMarshalBack64", apart := false }
def FnMarshalBack64Said : Prop := fnMarshalBack64Row.holds Try.pinned (OpenSpec.ofChange fnMarshalBack64Spec)

/-- ITS FALSE NEIGHBOUR: 'it returns false'. Refute it at one input. -/
def fnMarshalBack64Wrong : ChangeSpec := { name := "fnMarshalBack64", fn := fun _ => fun
  | [d1, d2, d3] => { results := [.lit (.bool false)], args := [d1, d2, d3] }
  | _ => none }
def FnMarshalBack64WrongFalsely : Prop := fnMarshalBack64Row.holds Try.pinned (OpenSpec.ofChange fnMarshalBack64Wrong)

/-- 'laws.FnSums64': WHATEVER THE INPUT: true; the input reads as it did. -/
def fnSums64Spec : ChangeSpec := { name := "fnSums64", fn := fun _ => fun
  | [d1, d2, d3] => { results := [.lit (.bool true)], args := [d1, d2, d3] }
  | _ => none }
def fnSums64Row : OpenClaim := { program := "ytocolnikidfbnaa", sum := "e588fa6c514f6dbdcec1d5cd52de4666570c9aa46d99027b5f261d3f35d5d453", func := "loop.example/pub-cyclicsums/laws.FnSums64", spec := "fnSums64", apart := false }
def FnSums64Said : Prop := fnSums64Row.holds Try.pinned (OpenSpec.ofChange fnSums64Spec)

/-- ITS FALSE NEIGHBOUR: 'it returns false'. Refute it at one input. -/
def fnSums64Wrong : ChangeSpec := { name := "fnSums64", fn := fun _ => fun
  | [d1, d2, d3] => { results := [.lit (.bool false)], args := [d1, d2, d3] }
  | _ => none }
def FnSums64WrongFalsely : Prop := fnSums64Row.holds Try.pinned (OpenSpec.ofChange fnSums64Wrong)

/- THE SECOND FORM. 'bulk': how many values and letters a reading holds, each counted each time it is reached (what is shared counts as often as it is met; a slice's spare places count too). A statement '..UptoSaid' is the law's where the arguments, and the package variables that the reading takes, are together of bulk at most 1048576: NARROWER than '..Said'. Prove '..Said' where nothing that the law and all that it calls make is longer than what came in: it says more and counts as full. Else prove '..UptoSaid'. A law counts once. -/
mutual
def uptoBulk {H : Type} : DataW H → Nat
  | .lit (.string bytes) => bytes.length + 1
  | .lit _ => 1
  | .nil => 1
  | .ptr d => uptoBulk d + 1
  | .slice elems spare => uptoBulkAll elems + uptoBulkAll spare + 1
  | .agg parts => uptoBulkAll parts + 1
  | .iface _ d => uptoBulk d + 1
  | .map entries => uptoBulkEntries entries + 1
  | .held _ => 1
def uptoBulkAll {H : Type} : List (DataW H) → Nat
  | [] => 0
  | d :: r => uptoBulk d + uptoBulkAll r
def uptoBulkEntries {H : Type} : List (Lit × DataW H) → Nat
  | [] => 0
  | x :: r => uptoBulkEntry x + uptoBulkEntries r
def uptoBulkEntry {H : Type} : Lit × DataW H → Nat
  | (.string bytes, d) => bytes.length + uptoBulk d + 1
  | (_, d) => uptoBulk d + 1
 end
def uptoSmall : (H : Type) → List (DataW H) → Bool := fun _ ds => decide (uptoBulkAll ds ≤ 1048576)
def OpenSpec.upto (s : _root_.Go.ChangeSpec) : _root_.Go.OpenSpec := { _root_.Go.OpenSpec.ofChange s with cond := some uptoSmall }

/-- 'laws.FnMarshalSame64', WHERE WHAT IT READS IS OF BULK AT MOST 1048576: true; the input reads as it did. -/
def fnMarshalSame64UptoRow : OpenClaim := { program := "ytocolnikidfbnaa", sum := "e588fa6c514f6dbdcec1d5cd52de4666570c9aa46d99027b5f261d3f35d5d453", func := "loop.example/pub-cyclicsums/laws.FnMarshalSame64", spec := "fnMarshalSame64", apart := false, narrowed := true }
def FnMarshalSame64UptoSaid : Prop := fnMarshalSame64UptoRow.holds Try.pinned (OpenSpec.upto fnMarshalSame64Spec)

/-- 'laws.FnMarshalCut64', WHERE WHAT IT READS IS OF BULK AT MOST 1048576: true; the input reads as it did. -/
def fnMarshalCut64UptoRow : OpenClaim := { program := "ytocolnikidfbnaa", sum := "e588fa6c514f6dbdcec1d5cd52de4666570c9aa46d99027b5f261d3f35d5d453", func := "loop.example/pub-cyclicsums/laws.FnMarshalCut64", spec := "fnMarshalCut64", apart := false, narrowed := true }
def FnMarshalCut64UptoSaid : Prop := fnMarshalCut64UptoRow.holds Try.pinned (OpenSpec.upto fnMarshalCut64Spec)

/-- 'laws.FnMarshalBack64', WHERE WHAT IT READS IS OF BULK AT MOST 1048576: true; the input reads as it did. -/
def fnMarshalBack64UptoRow : OpenClaim := { program := "ytocolnikidfbnaa", sum := "e588fa6c514f6dbdcec1d5cd52de4666570c9aa46d99027b5f261d3f35d5d453", func := "loop.example/pub-cyclicsums/laws.FnMarshalBack64", spec := "fnMarshalBack64", apart := false, narrowed := true }
def FnMarshalBack64UptoSaid : Prop := fnMarshalBack64UptoRow.holds Try.pinned (OpenSpec.upto fnMarshalBack64Spec)

/-- 'laws.FnSums64', WHERE WHAT IT READS IS OF BULK AT MOST 1048576: true; the input reads as it did. -/
def fnSums64UptoRow : OpenClaim := { program := "ytocolnikidfbnaa", sum := "e588fa6c514f6dbdcec1d5cd52de4666570c9aa46d99027b5f261d3f35d5d453", func := "loop.example/pub-cyclicsums/laws.FnSums64", spec := "fnSums64", apart := false, narrowed := true }
def FnSums64UptoSaid : Prop := fnSums64UptoRow.holds Try.pinned (OpenSpec.upto fnSums64Spec)

end Rows
end Go.Proofs.Ytocolnikidfbnaa
