/-
  No cell of these rows narrows 'for every input' (looked for: loops, veiled, ifaces, maps, wideKeys, modest, calm, conditions, laid).
  DERIVED. THE GIVEN ROWS OF THIS SEAT. 2 by the template 'for every input the law returns true; each argument reads behind the call as it read before'; 0 by the template 'total and deterministic' (their statements: YteboknohhcgdcaaTotals.lean).
  GIVEN WITH THE SEED: the statements are not yours to turn. If you find one false, say at which input.
  Laid BY PROGRAM, IN A SANDBOX (cutbox-rows.mjs): the forced cells as the released guide's own fill.sh prints them over the translation 2aaa75863a9ba3dc… (all of the seat's roots in one cut). By AI agents, Wed Nov 11 2026. No macro, syntax, notation, axiom, sorry.
-/
import Derived.Test.YteboknohhcgdcaaChecked
import GoSem.Claim
import GoSem.ClaimJoined
import GoSem.ClaimMapViews
import Derived.JoinedTies
import Derived.KernelRfl
namespace Go.Proofs.Yteboknohhcgdcaa
/- THE CELL 'sum', in the pinned program and in every row, IS THE sha256 OF THE DUMP (.gsa) THAT YteboknohhcgdcaaProg.lean LOADS. Nothing in Lean hashes anything: it is a label: what it is worth is what the hold of that sum in a sandbox is worth. -/
noncomputable def Try.pinned : Pinned := { name := "yteboknohhcgdcaa", sum := "2aaa75863a9ba3dc7010ae798618c7c83e2a7f3233b65320aeeab678992acf40", checked := Try.checked }
namespace Rows
def none {H : Type} : Left H := { results := [], args := [] }

/-- 'laws.FnIncrementApart': WHATEVER THE INPUT: true; the input reads as it did. -/
def fnIncrementApartSpec : ChangeSpec := { name := "fnIncrementApart", fn := fun _ => fun
  | [d1, d2] => { results := [.lit (.bool true)], args := [d1, d2] }
  | _ => none }
def fnIncrementApartRow : OpenClaim := { program := "yteboknohhcgdcaa", sum := "2aaa75863a9ba3dc7010ae798618c7c83e2a7f3233b65320aeeab678992acf40", func := "loop.example/pub-g03029/laws.FnIncrementApart", spec := "fnIncrementApart", inPlace := ["math/bits.Add64"], apart := false }
def FnIncrementApartSaid : Prop := fnIncrementApartRow.holds Try.pinned (OpenSpec.ofChange fnIncrementApartSpec)

/-- ITS FALSE NEIGHBOUR: 'it returns false'. Refute it at one input. -/
def fnIncrementApartWrong : ChangeSpec := { name := "fnIncrementApart", fn := fun _ => fun
  | [d1, d2] => { results := [.lit (.bool false)], args := [d1, d2] }
  | _ => none }
def FnIncrementApartWrongFalsely : Prop := fnIncrementApartRow.holds Try.pinned (OpenSpec.ofChange fnIncrementApartWrong)

/-- 'laws.FnIncrementIs': WHATEVER THE INPUT: true; the input reads as it did. -/
def fnIncrementIsSpec : ChangeSpec := { name := "fnIncrementIs", fn := fun _ => fun
  | [d] => { results := [.lit (.bool true)], args := [d] }
  | _ => none }
def fnIncrementIsRow : OpenClaim := { program := "yteboknohhcgdcaa", sum := "2aaa75863a9ba3dc7010ae798618c7c83e2a7f3233b65320aeeab678992acf40", func := "loop.example/pub-g03029/laws.FnIncrementIs", spec := "fnIncrementIs", inPlace := ["math/bits.Add64"], apart := false }
def FnIncrementIsSaid : Prop := fnIncrementIsRow.holds Try.pinned (OpenSpec.ofChange fnIncrementIsSpec)

/-- ITS FALSE NEIGHBOUR: 'it returns false'. Refute it at one input. -/
def fnIncrementIsWrong : ChangeSpec := { name := "fnIncrementIs", fn := fun _ => fun
  | [d] => { results := [.lit (.bool false)], args := [d] }
  | _ => none }
def FnIncrementIsWrongFalsely : Prop := fnIncrementIsRow.holds Try.pinned (OpenSpec.ofChange fnIncrementIsWrong)

/- THE SECOND FORM. 'bulk': how many values and letters a reading holds, each counted each time it is reached (what is shared counts as often as it is met; a slice's spare places count too). A statement '..UptoSaid' is the law's where the arguments, and the package variables that the reading takes, are together of bulk at most 1048576: NARROWER than '..Said'. Prove '..Said' where nothing that the law and all that it calls make is longer than what came in: it says more and counts as full. Else prove '..UptoSaid'. A law counts once. -/
mutual
def uptoBulk {H : Type} : DataW H → Nat
  | .lit (.string bytes) => bytes.length + 1
  | .lit _ => 1
  | .nil => 1
  | .ptr d => uptoBulk d + 1
  | .slice elems spare => uptoBulkAll elems + uptoBulkAll spare + 1
  | .agg parts => uptoBulkAll parts + 1
  | .iface _ d => uptoBulk d + 1
  | .map entries => uptoBulkEntries entries + 1
  | .held _ => 1
def uptoBulkAll {H : Type} : List (DataW H) → Nat
  | [] => 0
  | d :: r => uptoBulk d + uptoBulkAll r
def uptoBulkEntries {H : Type} : List (Lit × DataW H) → Nat
  | [] => 0
  | x :: r => uptoBulkEntry x + uptoBulkEntries r
def uptoBulkEntry {H : Type} : Lit × DataW H → Nat
  | (.string bytes, d) => bytes.length + uptoBulk d + 1
  | (_, d) => uptoBulk d + 1
 end
def uptoSmall : (H : Type) → List (DataW H) → Bool := fun _ ds => decide (uptoBulkAll ds ≤ 1048576)
def OpenSpec.upto (s : _root_.Go.ChangeSpec) : _root_.Go.OpenSpec := { _root_.Go.OpenSpec.ofChange s with cond := some uptoSmall }

/-- 'laws.FnIncrementApart', WHERE WHAT IT READS IS OF BULK AT MOST 1048576: true; the input reads as it did. -/
def fnIncrementApartUptoRow : OpenClaim := { program := "yteboknohhcgdcaa", sum := "2aaa75863a9ba3dc7010ae798618c7c83e2a7f3233b65320aeeab678992acf40", func := "loop.example/pub-g03029/laws.FnIncrementApart", spec := "fnIncrementApart", inPlace := ["math/bits.Add64"], apart := false, narrowed := true }
def FnIncrementApartUptoSaid : Prop := fnIncrementApartUptoRow.holds Try.pinned (OpenSpec.upto fnIncrementApartSpec)

/-- 'laws.FnIncrementIs', WHERE WHAT IT READS IS OF BULK AT MOST 1048576: true; the input reads as it did. -/
def fnIncrementIsUptoRow : OpenClaim := { program := "yteboknohhcgdcaa", sum := "2aaa75863a9ba3dc7010ae798618c7c83e2a7f3233b65320aeeab678992acf40", func := "loop.example/pub-g03029/laws.FnIncrementIs", spec := "fnIncrementIs", inPlace := ["math/bits.Add64"], apart := false, narrowed := true }
def FnIncrementIsUptoSaid : Prop := fnIncrementIsUptoRow.holds Try.pinned (OpenSpec.upto fnIncrementIsSpec)

end Rows
end Go.Proofs.Yteboknohhcgdcaa
