/-
  No cell of these rows narrows 'for every input' (looked for: loops, veiled, ifaces, maps, wideKeys, modest, calm, conditions, laid).
  DERIVED. THE GIVEN ROWS OF THIS SEAT. 6 by the template 'for every input the law returns true; each argument reads behind the call as it read before'; 0 by the template 'total and deterministic' (their statements: YtbppoiedaojjmaaTotals.lean).
  GIVEN WITH THE SEED: the statements are not yours to turn. If you find one false, say at which input.
  Laid BY PROGRAM, IN A SANDBOX (cutbox-rows.mjs): the forced cells as the released guide's own fill.sh prints them over the translation 241ab941b2d69bb8… (all of the seat's roots in one cut). By AI agents, Wed Nov 11 2026. No macro, syntax, notation, axiom, sorry.
-/
import Derived.Test.YtbppoiedaojjmaaChecked
import GoSem.Claim
import GoSem.ClaimJoined
import GoSem.ClaimMapViews
import Derived.JoinedTies
import Derived.KernelRfl
namespace Go.Proofs.Ytbppoiedaojjmaa
/- THE CELL 'sum', in the pinned program and in every row, IS THE sha256 OF THE DUMP (.gsa) THAT YtbppoiedaojjmaaProg.lean LOADS. Nothing in Lean hashes anything: it is a label: what it is worth is what the hold of that sum in a sandbox is worth. -/
noncomputable def Try.pinned : Pinned := { name := "ytbppoiedaojjmaa", sum := "241ab941b2d69bb842cd7b516cbc5b8bc1a63180849948ee61885082373fa3e0", checked := Try.checked }
namespace Rows
def none {H : Type} : Left H := { results := [], args := [] }

/-- 'laws.FnGjLiteralAtAny': WHATEVER THE INPUT: true; the input reads as it did. -/
def fnGjLiteralAtAnySpec : ChangeSpec := { name := "fnGjLiteralAtAny", fn := fun _ => fun
  | [d1, d2] => { results := [.lit (.bool true)], args := [d1, d2] }
  | _ => none }
def fnGjLiteralAtAnyRow : OpenClaim := { program := "ytbppoiedaojjmaa", sum := "241ab941b2d69bb842cd7b516cbc5b8bc1a63180849948ee61885082373fa3e0", func := "pub-tetrapla/laws.FnGjLiteralAtAny", spec := "fnGjLiteralAtAny", apart := false }
def FnGjLiteralAtAnySaid : Prop := fnGjLiteralAtAnyRow.holds Try.pinned (OpenSpec.ofChange fnGjLiteralAtAnySpec)

/-- ITS FALSE NEIGHBOUR: 'it returns false'. Refute it at one input. -/
def fnGjLiteralAtAnyWrong : ChangeSpec := { name := "fnGjLiteralAtAny", fn := fun _ => fun
  | [d1, d2] => { results := [.lit (.bool false)], args := [d1, d2] }
  | _ => none }
def FnGjLiteralAtAnyWrongFalsely : Prop := fnGjLiteralAtAnyRow.holds Try.pinned (OpenSpec.ofChange fnGjLiteralAtAnyWrong)

/-- 'laws.FnPrUglyInPlace': WHATEVER THE INPUT: true; the input reads as it did. -/
def fnPrUglyInPlaceSpec : ChangeSpec := { name := "fnPrUglyInPlace", fn := fun _ => fun
  | [d] => { results := [.lit (.bool true)], args := [d] }
  | _ => none }
def fnPrUglyInPlaceRow : OpenClaim := { program := "ytbppoiedaojjmaa", sum := "241ab941b2d69bb842cd7b516cbc5b8bc1a63180849948ee61885082373fa3e0", func := "pub-tetrapla/laws.FnPrUglyInPlace", spec := "fnPrUglyInPlace", recurses := true, apart := false }
def FnPrUglyInPlaceSaid : Prop := fnPrUglyInPlaceRow.holds Try.pinned (OpenSpec.ofChange fnPrUglyInPlaceSpec)

/-- ITS FALSE NEIGHBOUR: 'it returns false'. Refute it at one input. -/
def fnPrUglyInPlaceWrong : ChangeSpec := { name := "fnPrUglyInPlace", fn := fun _ => fun
  | [d] => { results := [.lit (.bool false)], args := [d] }
  | _ => none }
def FnPrUglyInPlaceWrongFalsely : Prop := fnPrUglyInPlaceRow.holds Try.pinned (OpenSpec.ofChange fnPrUglyInPlaceWrong)

/-- 'laws.FnFjTypeName': WHATEVER THE INPUT: true; the input reads as it did. -/
def fnFjTypeNameSpec : ChangeSpec := { name := "fnFjTypeName", fn := fun _ => fun
  | [d] => { results := [.lit (.bool true)], args := [d] }
  | _ => none }
def fnFjTypeNameRow : OpenClaim := { program := "ytbppoiedaojjmaa", sum := "241ab941b2d69bb842cd7b516cbc5b8bc1a63180849948ee61885082373fa3e0", func := "pub-tetrapla/laws.FnFjTypeName", spec := "fnFjTypeName", apart := false }
def FnFjTypeNameSaid : Prop := fnFjTypeNameRow.holds Try.pinned (OpenSpec.ofChange fnFjTypeNameSpec)

/-- ITS FALSE NEIGHBOUR: 'it returns false'. Refute it at one input. -/
def fnFjTypeNameWrong : ChangeSpec := { name := "fnFjTypeName", fn := fun _ => fun
  | [d] => { results := [.lit (.bool false)], args := [d] }
  | _ => none }
def FnFjTypeNameWrongFalsely : Prop := fnFjTypeNameRow.holds Try.pinned (OpenSpec.ofChange fnFjTypeNameWrong)

/-- 'laws.FnPrUglyJoin': WHATEVER THE INPUT: true; the input reads as it did. -/
def fnPrUglyJoinSpec : ChangeSpec := { name := "fnPrUglyJoin", fn := fun _ => fun
  | [d1, d2, d3, d4] => { results := [.lit (.bool true)], args := [d1, d2, d3, d4] }
  | _ => none }
def fnPrUglyJoinRow : OpenClaim := { program := "ytbppoiedaojjmaa", sum := "241ab941b2d69bb842cd7b516cbc5b8bc1a63180849948ee61885082373fa3e0", func := "pub-tetrapla/laws.FnPrUglyJoin", spec := "fnPrUglyJoin", recurses := true, apart := false }
def FnPrUglyJoinSaid : Prop := fnPrUglyJoinRow.holds Try.pinned (OpenSpec.ofChange fnPrUglyJoinSpec)

/-- ITS FALSE NEIGHBOUR: 'it returns false'. Refute it at one input. -/
def fnPrUglyJoinWrong : ChangeSpec := { name := "fnPrUglyJoin", fn := fun _ => fun
  | [d1, d2, d3, d4] => { results := [.lit (.bool false)], args := [d1, d2, d3, d4] }
  | _ => none }
def FnPrUglyJoinWrongFalsely : Prop := fnPrUglyJoinRow.holds Try.pinned (OpenSpec.ofChange fnPrUglyJoinWrong)

/-- 'laws.FnJqEscapeParts': WHATEVER THE INPUT: true; the input reads as it did. -/
def fnJqEscapePartsSpec : ChangeSpec := { name := "fnJqEscapeParts", fn := fun _ => fun
  | [d1, d2] => { results := [.lit (.bool true)], args := [d1, d2] }
  | _ => none }
def fnJqEscapePartsRow : OpenClaim := { program := "ytbppoiedaojjmaa", sum := "241ab941b2d69bb842cd7b516cbc5b8bc1a63180849948ee61885082373fa3e0", func := "pub-tetrapla/laws.FnJqEscapeParts", spec := "fnJqEscapeParts", apart := false }
def FnJqEscapePartsSaid : Prop := fnJqEscapePartsRow.holds Try.pinned (OpenSpec.ofChange fnJqEscapePartsSpec)

/-- ITS FALSE NEIGHBOUR: 'it returns false'. Refute it at one input. -/
def fnJqEscapePartsWrong : ChangeSpec := { name := "fnJqEscapeParts", fn := fun _ => fun
  | [d1, d2] => { results := [.lit (.bool false)], args := [d1, d2] }
  | _ => none }
def FnJqEscapePartsWrongFalsely : Prop := fnJqEscapePartsRow.holds Try.pinned (OpenSpec.ofChange fnJqEscapePartsWrong)

/-- 'laws.FnGjFold': WHATEVER THE INPUT: true; the input reads as it did. -/
def fnGjFoldSpec : ChangeSpec := { name := "fnGjFold", fn := fun _ => fun
  | [d1, d2] => { results := [.lit (.bool true)], args := [d1, d2] }
  | _ => none }
def fnGjFoldRow : OpenClaim := { program := "ytbppoiedaojjmaa", sum := "241ab941b2d69bb842cd7b516cbc5b8bc1a63180849948ee61885082373fa3e0", func := "pub-tetrapla/laws.FnGjFold", spec := "fnGjFold", apart := false }
def FnGjFoldSaid : Prop := fnGjFoldRow.holds Try.pinned (OpenSpec.ofChange fnGjFoldSpec)

/-- ITS FALSE NEIGHBOUR: 'it returns false'. Refute it at one input. -/
def fnGjFoldWrong : ChangeSpec := { name := "fnGjFold", fn := fun _ => fun
  | [d1, d2] => { results := [.lit (.bool false)], args := [d1, d2] }
  | _ => none }
def FnGjFoldWrongFalsely : Prop := fnGjFoldRow.holds Try.pinned (OpenSpec.ofChange fnGjFoldWrong)

/- THE SECOND FORM. 'bulk': how many values and letters a reading holds, each counted each time it is reached (what is shared counts as often as it is met; a slice's spare places count too). A statement '..UptoSaid' is the law's where the arguments, and the package variables that the reading takes, are together of bulk at most 1048576: NARROWER than '..Said'. Prove '..Said' where nothing that the law and all that it calls make is longer than what came in: it says more and counts as full. Else prove '..UptoSaid'. A law counts once. -/
mutual
def uptoBulk {H : Type} : DataW H → Nat
  | .lit (.string bytes) => bytes.length + 1
  | .lit _ => 1
  | .nil => 1
  | .ptr d => uptoBulk d + 1
  | .slice elems spare => uptoBulkAll elems + uptoBulkAll spare + 1
  | .agg parts => uptoBulkAll parts + 1
  | .iface _ d => uptoBulk d + 1
  | .map entries => uptoBulkEntries entries + 1
  | .held _ => 1
def uptoBulkAll {H : Type} : List (DataW H) → Nat
  | [] => 0
  | d :: r => uptoBulk d + uptoBulkAll r
def uptoBulkEntries {H : Type} : List (Lit × DataW H) → Nat
  | [] => 0
  | x :: r => uptoBulkEntry x + uptoBulkEntries r
def uptoBulkEntry {H : Type} : Lit × DataW H → Nat
  | (.string bytes, d) => bytes.length + uptoBulk d + 1
  | (_, d) => uptoBulk d + 1
 end
def uptoSmall : (H : Type) → List (DataW H) → Bool := fun _ ds => decide (uptoBulkAll ds ≤ 1048576)
def OpenSpec.upto (s : _root_.Go.ChangeSpec) : _root_.Go.OpenSpec := { _root_.Go.OpenSpec.ofChange s with cond := some uptoSmall }

/-- 'laws.FnGjLiteralAtAny', WHERE WHAT IT READS IS OF BULK AT MOST 1048576: true; the input reads as it did. -/
def fnGjLiteralAtAnyUptoRow : OpenClaim := { program := "ytbppoiedaojjmaa", sum := "241ab941b2d69bb842cd7b516cbc5b8bc1a63180849948ee61885082373fa3e0", func := "pub-tetrapla/laws.FnGjLiteralAtAny", spec := "fnGjLiteralAtAny", apart := false, narrowed := true }
def FnGjLiteralAtAnyUptoSaid : Prop := fnGjLiteralAtAnyUptoRow.holds Try.pinned (OpenSpec.upto fnGjLiteralAtAnySpec)

/-- 'laws.FnPrUglyInPlace', WHERE WHAT IT READS IS OF BULK AT MOST 1048576: true; the input reads as it did. -/
def fnPrUglyInPlaceUptoRow : OpenClaim := { program := "ytbppoiedaojjmaa", sum := "241ab941b2d69bb842cd7b516cbc5b8bc1a63180849948ee61885082373fa3e0", func := "pub-tetrapla/laws.FnPrUglyInPlace", spec := "fnPrUglyInPlace", recurses := true, apart := false, narrowed := true }
def FnPrUglyInPlaceUptoSaid : Prop := fnPrUglyInPlaceUptoRow.holds Try.pinned (OpenSpec.upto fnPrUglyInPlaceSpec)

/-- 'laws.FnFjTypeName', WHERE WHAT IT READS IS OF BULK AT MOST 1048576: true; the input reads as it did. -/
def fnFjTypeNameUptoRow : OpenClaim := { program := "ytbppoiedaojjmaa", sum := "241ab941b2d69bb842cd7b516cbc5b8bc1a63180849948ee61885082373fa3e0", func := "pub-tetrapla/laws.FnFjTypeName", spec := "fnFjTypeName", apart := false, narrowed := true }
def FnFjTypeNameUptoSaid : Prop := fnFjTypeNameUptoRow.holds Try.pinned (OpenSpec.upto fnFjTypeNameSpec)

/-- 'laws.FnPrUglyJoin', WHERE WHAT IT READS IS OF BULK AT MOST 1048576: true; the input reads as it did. -/
def fnPrUglyJoinUptoRow : OpenClaim := { program := "ytbppoiedaojjmaa", sum := "241ab941b2d69bb842cd7b516cbc5b8bc1a63180849948ee61885082373fa3e0", func := "pub-tetrapla/laws.FnPrUglyJoin", spec := "fnPrUglyJoin", recurses := true, apart := false, narrowed := true }
def FnPrUglyJoinUptoSaid : Prop := fnPrUglyJoinUptoRow.holds Try.pinned (OpenSpec.upto fnPrUglyJoinSpec)

/-- 'laws.FnJqEscapeParts', WHERE WHAT IT READS IS OF BULK AT MOST 1048576: true; the input reads as it did. -/
def fnJqEscapePartsUptoRow : OpenClaim := { program := "ytbppoiedaojjmaa", sum := "241ab941b2d69bb842cd7b516cbc5b8bc1a63180849948ee61885082373fa3e0", func := "pub-tetrapla/laws.FnJqEscapeParts", spec := "fnJqEscapeParts", apart := false, narrowed := true }
def FnJqEscapePartsUptoSaid : Prop := fnJqEscapePartsUptoRow.holds Try.pinned (OpenSpec.upto fnJqEscapePartsSpec)

/-- 'laws.FnGjFold', WHERE WHAT IT READS IS OF BULK AT MOST 1048576: true; the input reads as it did. -/
def fnGjFoldUptoRow : OpenClaim := { program := "ytbppoiedaojjmaa", sum := "241ab941b2d69bb842cd7b516cbc5b8bc1a63180849948ee61885082373fa3e0", func := "pub-tetrapla/laws.FnGjFold", spec := "fnGjFold", apart := false, narrowed := true }
def FnGjFoldUptoSaid : Prop := fnGjFoldUptoRow.holds Try.pinned (OpenSpec.upto fnGjFoldSpec)

end Rows
end Go.Proofs.Ytbppoiedaojjmaa
