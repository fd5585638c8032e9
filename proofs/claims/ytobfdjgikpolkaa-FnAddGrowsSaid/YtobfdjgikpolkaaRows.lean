/-
  No cell of these rows narrows 'for every input' (looked for: loops, veiled, ifaces, maps, wideKeys, modest, calm, conditions, laid).
  DERIVED. THE GIVEN ROWS OF THIS SEAT. 3 by the template 'for every input the law returns true; each argument reads behind the call as it read before'; 0 by the template 'total and deterministic' (their statements: YtobfdjgikpolkaaTotals.lean).
  GIVEN WITH THE SEED: the statements are not yours to turn. If you find one false, say at which input.
  Laid BY PROGRAM, IN A SANDBOX (cutbox-rows.mjs): the forced cells as the released guide's own fill.sh prints them over the translation fb0f5d1308cab526… (all of the seat's roots in one cut). By AI agents, Wed Nov 11 2026. No macro, syntax, notation, axiom, sorry.
-/
import Derived.Test.YtobfdjgikpolkaaChecked
import GoSem.Claim
import GoSem.ClaimJoined
import GoSem.ClaimMapViews
import Derived.JoinedTies
import Derived.KernelRfl
namespace Go.Proofs.Ytobfdjgikpolkaa
/- THE CELL 'sum', in the pinned program and in every row, IS THE sha256 OF THE DUMP (.gsa) THAT YtobfdjgikpolkaaProg.lean LOADS. Nothing in Lean hashes anything: it is a label: what it is worth is what the hold of that sum in a sandbox is worth. -/
noncomputable def Try.pinned : Pinned := { name := "ytobfdjgikpolkaa", sum := "fb0f5d1308cab5265bb307284f6ffe01e49ce184af490d6f8b5ed57e60ad8b11", checked := Try.checked }
namespace Rows
def none {H : Type} : Left H := { results := [], args := [] }

/-- 'laws.FnAddGrows': WHATEVER THE INPUT: true; the input reads as it did. -/
def fnAddGrowsSpec : ChangeSpec := { name := "fnAddGrows", fn := fun _ => fun
  | [d1, d2, d3, d4, d5, d6] => { results := [.lit (.bool true)], args := [d1, d2, d3, d4, d5, d6] }
  | _ => none }
def fnAddGrowsRow : OpenClaim := { program := "ytobfdjgikpolkaa", sum := "fb0f5d1308cab5265bb307284f6ffe01e49ce184af490d6f8b5ed57e60ad8b11", func := "loop.example/pub-g01457/laws.FnAddGrows", spec := "fnAddGrows", apart := false }
def FnAddGrowsSaid : Prop := fnAddGrowsRow.holds Try.pinned (OpenSpec.ofChange fnAddGrowsSpec)

/-- ITS FALSE NEIGHBOUR: 'it returns false'. Refute it at one input. -/
def fnAddGrowsWrong : ChangeSpec := { name := "fnAddGrows", fn := fun _ => fun
  | [d1, d2, d3, d4, d5, d6] => { results := [.lit (.bool false)], args := [d1, d2, d3, d4, d5, d6] }
  | _ => none }
def FnAddGrowsWrongFalsely : Prop := fnAddGrowsRow.holds Try.pinned (OpenSpec.ofChange fnAddGrowsWrong)

/-- 'laws.FnAddTightSigned': WHATEVER THE INPUT: true; the input reads as it did. -/
def fnAddTightSignedSpec : ChangeSpec := { name := "fnAddTightSigned", fn := fun _ => fun
  | [d1, d2, d3, d4, d5] => { results := [.lit (.bool true)], args := [d1, d2, d3, d4, d5] }
  | _ => none }
def fnAddTightSignedRow : OpenClaim := { program := "ytobfdjgikpolkaa", sum := "fb0f5d1308cab5265bb307284f6ffe01e49ce184af490d6f8b5ed57e60ad8b11", func := "loop.example/pub-g01457/laws.FnAddTightSigned", spec := "fnAddTightSigned", apart := false }
def FnAddTightSignedSaid : Prop := fnAddTightSignedRow.holds Try.pinned (OpenSpec.ofChange fnAddTightSignedSpec)

/-- ITS FALSE NEIGHBOUR: 'it returns false'. Refute it at one input. -/
def fnAddTightSignedWrong : ChangeSpec := { name := "fnAddTightSigned", fn := fun _ => fun
  | [d1, d2, d3, d4, d5] => { results := [.lit (.bool false)], args := [d1, d2, d3, d4, d5] }
  | _ => none }
def FnAddTightSignedWrongFalsely : Prop := fnAddTightSignedRow.holds Try.pinned (OpenSpec.ofChange fnAddTightSignedWrong)

/-- 'laws.FnAddTightUnsigned': WHATEVER THE INPUT: true; the input reads as it did. -/
def fnAddTightUnsignedSpec : ChangeSpec := { name := "fnAddTightUnsigned", fn := fun _ => fun
  | [d1, d2, d3, d4, d5] => { results := [.lit (.bool true)], args := [d1, d2, d3, d4, d5] }
  | _ => none }
def fnAddTightUnsignedRow : OpenClaim := { program := "ytobfdjgikpolkaa", sum := "fb0f5d1308cab5265bb307284f6ffe01e49ce184af490d6f8b5ed57e60ad8b11", func := "loop.example/pub-g01457/laws.FnAddTightUnsigned", spec := "fnAddTightUnsigned", apart := false }
def FnAddTightUnsignedSaid : Prop := fnAddTightUnsignedRow.holds Try.pinned (OpenSpec.ofChange fnAddTightUnsignedSpec)

/-- ITS FALSE NEIGHBOUR: 'it returns false'. Refute it at one input. -/
def fnAddTightUnsignedWrong : ChangeSpec := { name := "fnAddTightUnsigned", fn := fun _ => fun
  | [d1, d2, d3, d4, d5] => { results := [.lit (.bool false)], args := [d1, d2, d3, d4, d5] }
  | _ => none }
def FnAddTightUnsignedWrongFalsely : Prop := fnAddTightUnsignedRow.holds Try.pinned (OpenSpec.ofChange fnAddTightUnsignedWrong)

/- THE SECOND FORM. 'bulk': how many values and letters a reading holds, each counted each time it is reached (what is shared counts as often as it is met; a slice's spare places count too). A statement '..UptoSaid' is the law's where the arguments, and the package variables that the reading takes, are together of bulk at most 1048576: NARROWER than '..Said'. Prove '..Said' where nothing that the law and all that it calls make is longer than what came in: it says more and counts as full. Else prove '..UptoSaid'. A law counts once. -/
mutual
def uptoBulk {H : Type} : DataW H → Nat
  | .lit (.string bytes) => bytes.length + 1
  | .lit _ => 1
  | .nil => 1
  | .ptr d => uptoBulk d + 1
  | .slice elems spare => uptoBulkAll elems + uptoBulkAll spare + 1
  | .agg parts => uptoBulkAll parts + 1
  | .iface _ d => uptoBulk d + 1
  | .map entries => uptoBulkEntries entries + 1
  | .held _ => 1
def uptoBulkAll {H : Type} : List (DataW H) → Nat
  | [] => 0
  | d :: r => uptoBulk d + uptoBulkAll r
def uptoBulkEntries {H : Type} : List (Lit × DataW H) → Nat
  | [] => 0
  | x :: r => uptoBulkEntry x + uptoBulkEntries r
def uptoBulkEntry {H : Type} : Lit × DataW H → Nat
  | (.string bytes, d) => bytes.length + uptoBulk d + 1
  | (_, d) => uptoBulk d + 1
 end
def uptoSmall : (H : Type) → List (DataW H) → Bool := fun _ ds => decide (uptoBulkAll ds ≤ 1048576)
def OpenSpec.upto (s : _root_.Go.ChangeSpec) : _root_.Go.OpenSpec := { _root_.Go.OpenSpec.ofChange s with cond := some uptoSmall }

/-- 'laws.FnAddGrows', WHERE WHAT IT READS IS OF BULK AT MOST 1048576: true; the input reads as it did. -/
def fnAddGrowsUptoRow : OpenClaim := { program := "ytobfdjgikpolkaa", sum := "fb0f5d1308cab5265bb307284f6ffe01e49ce184af490d6f8b5ed57e60ad8b11", func := "loop.example/pub-g01457/laws.FnAddGrows", spec := "fnAddGrows", apart := false, narrowed := true }
def FnAddGrowsUptoSaid : Prop := fnAddGrowsUptoRow.holds Try.pinned (OpenSpec.upto fnAddGrowsSpec)

/-- 'laws.FnAddTightSigned', WHERE WHAT IT READS IS OF BULK AT MOST 1048576: true; the input reads as it did. -/
def fnAddTightSignedUptoRow : OpenClaim := { program := "ytobfdjgikpolkaa", sum := "fb0f5d1308cab5265bb307284f6ffe01e49ce184af490d6f8b5ed57e60ad8b11", func := "loop.example/pub-g01457/laws.FnAddTightSigned", spec := "fnAddTightSigned", apart := false, narrowed := true }
def FnAddTightSignedUptoSaid : Prop := fnAddTightSignedUptoRow.holds Try.pinned (OpenSpec.upto fnAddTightSignedSpec)

/-- 'laws.FnAddTightUnsigned', WHERE WHAT IT READS IS OF BULK AT MOST 1048576: true; the input reads as it did. -/
def fnAddTightUnsignedUptoRow : OpenClaim := { program := "ytobfdjgikpolkaa", sum := "fb0f5d1308cab5265bb307284f6ffe01e49ce184af490d6f8b5ed57e60ad8b11", func := "loop.example/pub-g01457/laws.FnAddTightUnsigned", spec := "fnAddTightUnsigned", apart := false, narrowed := true }
def FnAddTightUnsignedUptoSaid : Prop := fnAddTightUnsignedUptoRow.holds Try.pinned (OpenSpec.upto fnAddTightUnsignedSpec)

end Rows
end Go.Proofs.Ytobfdjgikpolkaa
