/-
  No cell of these rows narrows 'for every input' (looked for: loops, veiled, ifaces, maps, wideKeys, modest, calm, conditions, laid).
  DERIVED. THE GIVEN ROWS OF THIS SEAT. 3 by the template 'for every input the law returns true; each argument reads behind the call as it read before'; 0 by the template 'total and deterministic' (their statements: Qxb6600598aModsTotals.lean).
  GIVEN WITH THE SEED: the statements are not yours to turn. If you find one false, say at which input.
  Laid BY PROGRAM, IN A SANDBOX (cutbox-rows.mjs): the forced cells as the released guide's own fill.sh prints them over the translation 59a5d85f8afb0193… (all of the seat's roots in one cut). By AI agents, Wed Nov 11 2026. No macro, syntax, notation, axiom, sorry.
-/
import Derived.Test.Qxb6600598aModsChecked
import GoSem.Claim
import GoSem.ClaimJoined
import GoSem.ClaimMapViews
import Derived.JoinedTies
import Derived.KernelRfl
namespace Go.Proofs.Qxb6600598aMods
/- THE CELL 'sum', in the pinned program and in every row, IS THE sha256 OF THE DUMP (.gsa) THAT Qxb6600598aModsProg.lean LOADS. Nothing in Lean hashes anything: it is a label: what it is worth is what the hold of that sum in a sandbox is worth. -/
noncomputable def Trym.pinned : Pinned := { name := "qxb6600598amods", sum := "59a5d85f8afb01933ee38da42d76f47fbe6726510ec725d648bdd311d5c7eacc", checked := Trym.checked }
namespace Rows
def none {H : Type} : Left H := { results := [], args := [] }

/-- 'zzlaws_root_b1.FnSkipThenPositionsAppends': WHATEVER THE INPUT: true; the input reads as it did. -/
def fnSkipThenPositionsAppendsSpec : ChangeSpec := { name := "fnSkipThenPositionsAppends", fn := fun _ => fun
  | [d1, d2, d3] => { results := [.lit (.bool true)], args := [d1, d2, d3] }
  | _ => none }
def fnSkipThenPositionsAppendsRow : OpenClaim := { program := "qxb6600598amods", sum := "59a5d85f8afb01933ee38da42d76f47fbe6726510ec725d648bdd311d5c7eacc", func := "example.com/quarterturn/quarterturn/zzlaws_root_b1.FnSkipThenPositionsAppends", spec := "fnSkipThenPositionsAppends", make := .lifted ["publicsums"], apart := false }
def FnSkipThenPositionsAppendsSaid : Prop := fnSkipThenPositionsAppendsRow.holds Trym.pinned (OpenSpec.ofChange fnSkipThenPositionsAppendsSpec)

/-- ITS FALSE NEIGHBOUR: 'it returns false'. Refute it at one input. -/
def fnSkipThenPositionsAppendsWrong : ChangeSpec := { name := "fnSkipThenPositionsAppends", fn := fun _ => fun
  | [d1, d2, d3] => { results := [.lit (.bool false)], args := [d1, d2, d3] }
  | _ => none }
def FnSkipThenPositionsAppendsWrongFalsely : Prop := fnSkipThenPositionsAppendsRow.holds Trym.pinned (OpenSpec.ofChange fnSkipThenPositionsAppendsWrong)

/-- 'zzlaws_root_b1.FnSkipsWriteDocumentedEncoding': WHATEVER THE INPUT: true; the input reads as it did. -/
def fnSkipsWriteDocumentedEncodingSpec : ChangeSpec := { name := "fnSkipsWriteDocumentedEncoding", fn := fun _ => fun
  | [d1, d2, d3] => { results := [.lit (.bool true)], args := [d1, d2, d3] }
  | _ => none }
def fnSkipsWriteDocumentedEncodingRow : OpenClaim := { program := "qxb6600598amods", sum := "59a5d85f8afb01933ee38da42d76f47fbe6726510ec725d648bdd311d5c7eacc", func := "example.com/quarterturn/quarterturn/zzlaws_root_b1.FnSkipsWriteDocumentedEncoding", spec := "fnSkipsWriteDocumentedEncoding", make := .lifted ["publicsums"], apart := false }
def FnSkipsWriteDocumentedEncodingSaid : Prop := fnSkipsWriteDocumentedEncodingRow.holds Trym.pinned (OpenSpec.ofChange fnSkipsWriteDocumentedEncodingSpec)

/-- ITS FALSE NEIGHBOUR: 'it returns false'. Refute it at one input. -/
def fnSkipsWriteDocumentedEncodingWrong : ChangeSpec := { name := "fnSkipsWriteDocumentedEncoding", fn := fun _ => fun
  | [d1, d2, d3] => { results := [.lit (.bool false)], args := [d1, d2, d3] }
  | _ => none }
def FnSkipsWriteDocumentedEncodingWrongFalsely : Prop := fnSkipsWriteDocumentedEncodingRow.holds Trym.pinned (OpenSpec.ofChange fnSkipsWriteDocumentedEncodingWrong)

/-- 'zzlaws_root_b1.FnSkippingPositionsRebuildsSkipList': WHATEVER THE INPUT: true; the input reads as it did. -/
def fnSkippingPositionsRebuildsSkipListSpec : ChangeSpec := { name := "fnSkippingPositionsRebuildsSkipList", fn := fun _ => fun
  | [d1, d2] => { results := [.lit (.bool true)], args := [d1, d2] }
  | _ => none }
def fnSkippingPositionsRebuildsSkipListRow : OpenClaim := { program := "qxb6600598amods", sum := "59a5d85f8afb01933ee38da42d76f47fbe6726510ec725d648bdd311d5c7eacc", func := "example.com/quarterturn/quarterturn/zzlaws_root_b1.FnSkippingPositionsRebuildsSkipList", spec := "fnSkippingPositionsRebuildsSkipList", make := .lifted ["publicsums"], apart := false }
def FnSkippingPositionsRebuildsSkipListSaid : Prop := fnSkippingPositionsRebuildsSkipListRow.holds Trym.pinned (OpenSpec.ofChange fnSkippingPositionsRebuildsSkipListSpec)

/-- ITS FALSE NEIGHBOUR: 'it returns false'. Refute it at one input. -/
def fnSkippingPositionsRebuildsSkipListWrong : ChangeSpec := { name := "fnSkippingPositionsRebuildsSkipList", fn := fun _ => fun
  | [d1, d2] => { results := [.lit (.bool false)], args := [d1, d2] }
  | _ => none }
def FnSkippingPositionsRebuildsSkipListWrongFalsely : Prop := fnSkippingPositionsRebuildsSkipListRow.holds Trym.pinned (OpenSpec.ofChange fnSkippingPositionsRebuildsSkipListWrong)

end Rows
end Go.Proofs.Qxb6600598aMods
