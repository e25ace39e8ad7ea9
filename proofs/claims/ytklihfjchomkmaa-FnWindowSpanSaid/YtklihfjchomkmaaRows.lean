/-
  No cell of these rows narrows 'for every input' (looked for: loops, veiled, ifaces, maps, wideKeys, modest, calm, conditions, laid).
  DERIVED. THE GIVEN ROWS OF THIS SEAT. 5 by the template 'for every input the law returns true; each argument reads behind the call as it read before'; 0 by the template 'total and deterministic' (their statements: YtklihfjchomkmaaTotals.lean).
  GIVEN WITH THE SEED: the statements are not yours to turn. If you find one false, say at which input.
  Laid BY PROGRAM, IN A SANDBOX (cutbox-rows.mjs): the forced cells as the released guide's own fill.sh prints them over the translation 0d0fa8570b40cd81… (all of the seat's roots in one cut). By AI agents, Wed Nov 11 2026. No macro, syntax, notation, axiom, sorry.
-/
import Derived.Test.YtklihfjchomkmaaChecked
import GoSem.Claim
import GoSem.ClaimJoined
import GoSem.ClaimMapViews
import Derived.JoinedTies
import Derived.KernelRfl
namespace Go.Proofs.Ytklihfjchomkmaa
/- THE CELL 'sum', in the pinned program and in every row, IS THE sha256 OF THE DUMP (.gsa) THAT YtklihfjchomkmaaProg.lean LOADS. Nothing in Lean hashes anything: it is a label: what it is worth is what the hold of that sum in a sandbox is worth. -/
noncomputable def Try.pinned : Pinned := { name := "ytklihfjchomkmaa", sum := "0d0fa8570b40cd81c6a434e6ace304cd2fe9883d14940ef6c5f9ab8296cd8dde", checked := Try.checked }
namespace Rows
def none {H : Type} : Left H := { results := [], args := [] }

/-- 'laws.FnCompactWider': WHATEVER THE INPUT: true; the input reads as it did. -/
def fnCompactWiderSpec : ChangeSpec := { name := "fnCompactWider", fn := fun _ => fun
  | [d1, d2, d3] => { results := [.lit (.bool true)], args := [d1, d2, d3] }
  | _ => none }
def fnCompactWiderRow : OpenClaim := { program := "ytklihfjchomkmaa", sum := "0d0fa8570b40cd81c6a434e6ace304cd2fe9883d14940ef6c5f9ab8296cd8dde", func := "pub-tandemry/laws.FnCompactWider", spec := "fnCompactWider", apart := false }
def FnCompactWiderSaid : Prop := fnCompactWiderRow.holds Try.pinned (OpenSpec.ofChange fnCompactWiderSpec)

/-- ITS FALSE NEIGHBOUR: 'it returns false'. Refute it at one input. -/
def fnCompactWiderWrong : ChangeSpec := { name := "fnCompactWider", fn := fun _ => fun
  | [d1, d2, d3] => { results := [.lit (.bool false)], args := [d1, d2, d3] }
  | _ => none }
def FnCompactWiderWrongFalsely : Prop := fnCompactWiderRow.holds Try.pinned (OpenSpec.ofChange fnCompactWiderWrong)

/-- 'laws.FnWindow': WHATEVER THE INPUT: true; the input reads as it did. -/
def fnWindowSpec : ChangeSpec := { name := "fnWindow", fn := fun _ => fun
  | [d1, d2, d3, d4] => { results := [.lit (.bool true)], args := [d1, d2, d3, d4] }
  | _ => none }
def fnWindowRow : OpenClaim := { program := "ytklihfjchomkmaa", sum := "0d0fa8570b40cd81c6a434e6ace304cd2fe9883d14940ef6c5f9ab8296cd8dde", func := "pub-tandemry/laws.FnWindow", spec := "fnWindow", unfollowed := true, recurses := true, apart := false }
def FnWindowSaid : Prop := fnWindowRow.holds Try.pinned (OpenSpec.ofChange fnWindowSpec)

/-- ITS FALSE NEIGHBOUR: 'it returns false'. Refute it at one input. -/
def fnWindowWrong : ChangeSpec := { name := "fnWindow", fn := fun _ => fun
  | [d1, d2, d3, d4] => { results := [.lit (.bool false)], args := [d1, d2, d3, d4] }
  | _ => none }
def FnWindowWrongFalsely : Prop := fnWindowRow.holds Try.pinned (OpenSpec.ofChange fnWindowWrong)

/-- 'laws.FnWindowBehind': WHATEVER THE INPUT: true; the input reads as it did. -/
def fnWindowBehindSpec : ChangeSpec := { name := "fnWindowBehind", fn := fun _ => fun
  | [d1, d2, d3] => { results := [.lit (.bool true)], args := [d1, d2, d3] }
  | _ => none }
def fnWindowBehindRow : OpenClaim := { program := "ytklihfjchomkmaa", sum := "0d0fa8570b40cd81c6a434e6ace304cd2fe9883d14940ef6c5f9ab8296cd8dde", func := "pub-tandemry/laws.FnWindowBehind", spec := "fnWindowBehind", unfollowed := true, recurses := true, apart := false }
def FnWindowBehindSaid : Prop := fnWindowBehindRow.holds Try.pinned (OpenSpec.ofChange fnWindowBehindSpec)

/-- ITS FALSE NEIGHBOUR: 'it returns false'. Refute it at one input. -/
def fnWindowBehindWrong : ChangeSpec := { name := "fnWindowBehind", fn := fun _ => fun
  | [d1, d2, d3] => { results := [.lit (.bool false)], args := [d1, d2, d3] }
  | _ => none }
def FnWindowBehindWrongFalsely : Prop := fnWindowBehindRow.holds Try.pinned (OpenSpec.ofChange fnWindowBehindWrong)

/-- 'laws.FnWindowSpan': WHATEVER THE INPUT: true; the input reads as it did. -/
def fnWindowSpanSpec : ChangeSpec := { name := "fnWindowSpan", fn := fun _ => fun
  | [d1, d2, d3] => { results := [.lit (.bool true)], args := [d1, d2, d3] }
  | _ => none }
def fnWindowSpanRow : OpenClaim := { program := "ytklihfjchomkmaa", sum := "0d0fa8570b40cd81c6a434e6ace304cd2fe9883d14940ef6c5f9ab8296cd8dde", func := "pub-tandemry/laws.FnWindowSpan", spec := "fnWindowSpan", unfollowed := true, recurses := true, apart := false }
def FnWindowSpanSaid : Prop := fnWindowSpanRow.holds Try.pinned (OpenSpec.ofChange fnWindowSpanSpec)

/-- ITS FALSE NEIGHBOUR: 'it returns false'. Refute it at one input. -/
def fnWindowSpanWrong : ChangeSpec := { name := "fnWindowSpan", fn := fun _ => fun
  | [d1, d2, d3] => { results := [.lit (.bool false)], args := [d1, d2, d3] }
  | _ => none }
def FnWindowSpanWrongFalsely : Prop := fnWindowSpanRow.holds Try.pinned (OpenSpec.ofChange fnWindowSpanWrong)

/-- 'laws.FnWindowWider': WHATEVER THE INPUT: true; the input reads as it did. -/
def fnWindowWiderSpec : ChangeSpec := { name := "fnWindowWider", fn := fun _ => fun
  | [d1, d2, d3, d4] => { results := [.lit (.bool true)], args := [d1, d2, d3, d4] }
  | _ => none }
def fnWindowWiderRow : OpenClaim := { program := "ytklihfjchomkmaa", sum := "0d0fa8570b40cd81c6a434e6ace304cd2fe9883d14940ef6c5f9ab8296cd8dde", func := "pub-tandemry/laws.FnWindowWider", spec := "fnWindowWider", unfollowed := true, recurses := true, apart := false }
def FnWindowWiderSaid : Prop := fnWindowWiderRow.holds Try.pinned (OpenSpec.ofChange fnWindowWiderSpec)

/-- ITS FALSE NEIGHBOUR: 'it returns false'. Refute it at one input. -/
def fnWindowWiderWrong : ChangeSpec := { name := "fnWindowWider", fn := fun _ => fun
  | [d1, d2, d3, d4] => { results := [.lit (.bool false)], args := [d1, d2, d3, d4] }
  | _ => none }
def FnWindowWiderWrongFalsely : Prop := fnWindowWiderRow.holds Try.pinned (OpenSpec.ofChange fnWindowWiderWrong)

/- THE SECOND FORM. 'bulk': how many values and letters a reading holds, each counted each time it is reached (what is shared counts as often as it is met; a slice's spare places count too). A statement '..UptoSaid' is the law's where the arguments, and the package variables that the reading takes, are together of bulk at most 1048576: NARROWER than '..Said'. Prove '..Said' where nothing that the law and all that it calls make is longer than what came in: it says more and counts as full. Else prove '..UptoSaid'. A law counts once. -/
mutual
def uptoBulk {H : Type} : DataW H → Nat
  | .lit (.string bytes) => bytes.length + 1
  | .lit _ => 1
  | .nil => 1
  | .ptr d => uptoBulk d + 1
  | .slice elems spare => uptoBulkAll elems + uptoBulkAll spare + 1
  | .agg parts => uptoBulkAll parts + 1
  | .iface _ d => uptoBulk d + 1
  | .map entries => uptoBulkEntries entries + 1
  | .held _ => 1
def uptoBulkAll {H : Type} : List (DataW H) → Nat
  | [] => 0
  | d :: r => uptoBulk d + uptoBulkAll r
def uptoBulkEntries {H : Type} : List (Lit × DataW H) → Nat
  | [] => 0
  | x :: r => uptoBulkEntry x + uptoBulkEntries r
def uptoBulkEntry {H : Type} : Lit × DataW H → Nat
  | (.string bytes, d) => bytes.length + uptoBulk d + 1
  | (_, d) => uptoBulk d + 1
 end
def uptoSmall : (H : Type) → List (DataW H) → Bool := fun _ ds => decide (uptoBulkAll ds ≤ 1048576)
def OpenSpec.upto (s : _root_.Go.ChangeSpec) : _root_.Go.OpenSpec := { _root_.Go.OpenSpec.ofChange s with cond := some uptoSmall }

/-- 'laws.FnCompactWider', WHERE WHAT IT READS IS OF BULK AT MOST 1048576: true; the input reads as it did. -/
def fnCompactWiderUptoRow : OpenClaim := { program := "ytklihfjchomkmaa", sum := "0d0fa8570b40cd81c6a434e6ace304cd2fe9883d14940ef6c5f9ab8296cd8dde", func := "pub-tandemry/laws.FnCompactWider", spec := "fnCompactWider", apart := false, narrowed := true }
def FnCompactWiderUptoSaid : Prop := fnCompactWiderUptoRow.holds Try.pinned (OpenSpec.upto fnCompactWiderSpec)

/-- 'laws.FnWindow', WHERE WHAT IT READS IS OF BULK AT MOST 1048576: true; the input reads as it did. -/
def fnWindowUptoRow : OpenClaim := { program := "ytklihfjchomkmaa", sum := "0d0fa8570b40cd81c6a434e6ace304cd2fe9883d14940ef6c5f9ab8296cd8dde", func := "pub-tandemry/laws.FnWindow", spec := "fnWindow", unfollowed := true, recurses := true, apart := false, narrowed := true }
def FnWindowUptoSaid : Prop := fnWindowUptoRow.holds Try.pinned (OpenSpec.upto fnWindowSpec)

/-- 'laws.FnWindowBehind', WHERE WHAT IT READS IS OF BULK AT MOST 1048576: true; the input reads as it did. -/
def fnWindowBehindUptoRow : OpenClaim := { program := "ytklihfjchomkmaa", sum := "0d0fa8570b40cd81c6a434e6ace304cd2fe9883d14940ef6c5f9ab8296cd8dde", func := "pub-tandemry/laws.FnWindowBehind", spec := "fnWindowBehind", unfollowed := true, recurses := true, apart := false, narrowed := true }
def FnWindowBehindUptoSaid : Prop := fnWindowBehindUptoRow.holds Try.pinned (OpenSpec.upto fnWindowBehindSpec)

/-- 'laws.FnWindowSpan', WHERE WHAT IT READS IS OF BULK AT MOST 1048576: true; the input reads as it did. -/
def fnWindowSpanUptoRow : OpenClaim := { program := "ytklihfjchomkmaa", sum := "0d0fa8570b40cd81c6a434e6ace304cd2fe9883d14940ef6c5f9ab8296cd8dde", func := "pub-tandemry/laws.FnWindowSpan", spec := "fnWindowSpan", unfollowed := true, recurses := true, apart := false, narrowed := true }
def FnWindowSpanUptoSaid : Prop := fnWindowSpanUptoRow.holds Try.pinned (OpenSpec.upto fnWindowSpanSpec)

/-- 'laws.FnWindowWider', WHERE WHAT IT READS IS OF BULK AT MOST 1048576: true; the input reads as it did. -/
def fnWindowWiderUptoRow : OpenClaim := { program := "ytklihfjchomkmaa", sum := "0d0fa8570b40cd81c6a434e6ace304cd2fe9883d14940ef6c5f9ab8296cd8dde", func := "pub-tandemry/laws.FnWindowWider", spec := "fnWindowWider", unfollowed := true, recurses := true, apart := false, narrowed := true }
def FnWindowWiderUptoSaid : Prop := fnWindowWiderUptoRow.holds Try.pinned (OpenSpec.upto fnWindowWiderSpec)

end Rows
end Go.Proofs.Ytklihfjchomkmaa
