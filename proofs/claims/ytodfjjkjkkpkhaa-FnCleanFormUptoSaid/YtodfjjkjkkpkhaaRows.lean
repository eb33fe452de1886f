/-
  No cell of these rows narrows 'for every input' (looked for: loops, veiled, ifaces, maps, wideKeys, modest, calm, conditions, laid).
  DERIVED. THE GIVEN ROWS OF THIS SEAT. 12 by the template 'for every input the law returns true; each argument reads behind the call as it read before'; 0 by the template 'total and deterministic' (their statements: YtodfjjkjkkpkhaaTotals.lean).
  GIVEN WITH THE SEED: the statements are not yours to turn. If you find one false, say at which input.
  Laid BY PROGRAM, IN A SANDBOX (cutbox-rows.mjs): the forced cells as the released guide's own fill.sh prints them over the translation b8034d9c760fdbf1… (all of the seat's roots in one cut). By AI agents, Wed Nov 11 2026. No macro, syntax, notation, axiom, sorry.
-/
import Derived.Test.YtodfjjkjkkpkhaaChecked
import GoSem.Claim
import GoSem.ClaimJoined
import GoSem.ClaimMapViews
import Derived.JoinedTies
import Derived.KernelRfl
namespace Go.Proofs.Ytodfjjkjkkpkhaa
/- THE CELL 'sum', in the pinned program and in every row, IS THE sha256 OF THE DUMP (.gsa) THAT YtodfjjkjkkpkhaaProg.lean LOADS. Nothing in Lean hashes anything: it is a label: what it is worth is what the hold of that sum in a sandbox is worth. -/
noncomputable def Try.pinned : Pinned := { name := "ytodfjjkjkkpkhaa", sum := "b8034d9c760fdbf159c59c34e5dd72687f06596d07f8c93c196f70b02ca7ce6b", checked := Try.checked }
namespace Rows
def none {H : Type} : Left H := { results := [], args := [] }

/-- 'laws.FnBaseTail': WHATEVER THE INPUT: true; the input reads as it did. -/
def fnBaseTailSpec : ChangeSpec := { name := "fnBaseTail", fn := fun _ => fun
  | [d1, d2] => { results := [.lit (.bool true)], args := [d1, d2] }
  | _ => none }
def fnBaseTailRow : OpenClaim := { program := "ytodfjjkjkkpkhaa", sum := "b8034d9c760fdbf159c59c34e5dd72687f06596d07f8c93c196f70b02ca7ce6b", func := "loop.example/lib-g03323/laws.FnBaseTail", spec := "fnBaseTail", inPlace := ["internal/bytealg.IndexByteString"], apart := false }
def FnBaseTailSaid : Prop := fnBaseTailRow.holds Try.pinned (OpenSpec.ofChange fnBaseTailSpec)

/-- ITS FALSE NEIGHBOUR: 'it returns false'. Refute it at one input. -/
def fnBaseTailWrong : ChangeSpec := { name := "fnBaseTail", fn := fun _ => fun
  | [d1, d2] => { results := [.lit (.bool false)], args := [d1, d2] }
  | _ => none }
def FnBaseTailWrongFalsely : Prop := fnBaseTailRow.holds Try.pinned (OpenSpec.ofChange fnBaseTailWrong)

/-- 'laws.FnClean': WHATEVER THE INPUT: true; the input reads as it did. -/
def fnCleanSpec : ChangeSpec := { name := "fnClean", fn := fun _ => fun
  | [d] => { results := [.lit (.bool true)], args := [d] }
  | _ => none }
def fnCleanRow : OpenClaim := { program := "ytodfjjkjkkpkhaa", sum := "b8034d9c760fdbf159c59c34e5dd72687f06596d07f8c93c196f70b02ca7ce6b", func := "loop.example/lib-g03323/laws.FnClean", spec := "fnClean", inPlace := ["internal/bytealg.IndexByteString"], apart := false }
def FnCleanSaid : Prop := fnCleanRow.holds Try.pinned (OpenSpec.ofChange fnCleanSpec)

/-- ITS FALSE NEIGHBOUR: 'it returns false'. Refute it at one input. -/
def fnCleanWrong : ChangeSpec := { name := "fnClean", fn := fun _ => fun
  | [d] => { results := [.lit (.bool false)], args := [d] }
  | _ => none }
def FnCleanWrongFalsely : Prop := fnCleanRow.holds Try.pinned (OpenSpec.ofChange fnCleanWrong)

/-- 'laws.FnCleanForm': WHATEVER THE INPUT: true; the input reads as it did. -/
def fnCleanFormSpec : ChangeSpec := { name := "fnCleanForm", fn := fun _ => fun
  | [d] => { results := [.lit (.bool true)], args := [d] }
  | _ => none }
def fnCleanFormRow : OpenClaim := { program := "ytodfjjkjkkpkhaa", sum := "b8034d9c760fdbf159c59c34e5dd72687f06596d07f8c93c196f70b02ca7ce6b", func := "loop.example/lib-g03323/laws.FnCleanForm", spec := "fnCleanForm", inPlace := ["internal/bytealg.IndexByteString"], apart := false }
def FnCleanFormSaid : Prop := fnCleanFormRow.holds Try.pinned (OpenSpec.ofChange fnCleanFormSpec)

/-- ITS FALSE NEIGHBOUR: 'it returns false'. Refute it at one input. -/
def fnCleanFormWrong : ChangeSpec := { name := "fnCleanForm", fn := fun _ => fun
  | [d] => { results := [.lit (.bool false)], args := [d] }
  | _ => none }
def FnCleanFormWrongFalsely : Prop := fnCleanFormRow.holds Try.pinned (OpenSpec.ofChange fnCleanFormWrong)

/-- 'laws.FnCleanHead': WHATEVER THE INPUT: true; the input reads as it did. -/
def fnCleanHeadSpec : ChangeSpec := { name := "fnCleanHead", fn := fun _ => fun
  | [d1, d2] => { results := [.lit (.bool true)], args := [d1, d2] }
  | _ => none }
def fnCleanHeadRow : OpenClaim := { program := "ytodfjjkjkkpkhaa", sum := "b8034d9c760fdbf159c59c34e5dd72687f06596d07f8c93c196f70b02ca7ce6b", func := "loop.example/lib-g03323/laws.FnCleanHead", spec := "fnCleanHead", inPlace := ["internal/bytealg.IndexByteString"], apart := false }
def FnCleanHeadSaid : Prop := fnCleanHeadRow.holds Try.pinned (OpenSpec.ofChange fnCleanHeadSpec)

/-- ITS FALSE NEIGHBOUR: 'it returns false'. Refute it at one input. -/
def fnCleanHeadWrong : ChangeSpec := { name := "fnCleanHead", fn := fun _ => fun
  | [d1, d2] => { results := [.lit (.bool false)], args := [d1, d2] }
  | _ => none }
def FnCleanHeadWrongFalsely : Prop := fnCleanHeadRow.holds Try.pinned (OpenSpec.ofChange fnCleanHeadWrong)

/-- 'laws.FnCleanInside': WHATEVER THE INPUT: true; the input reads as it did. -/
def fnCleanInsideSpec : ChangeSpec := { name := "fnCleanInside", fn := fun _ => fun
  | [d1, d2, d3] => { results := [.lit (.bool true)], args := [d1, d2, d3] }
  | _ => none }
def fnCleanInsideRow : OpenClaim := { program := "ytodfjjkjkkpkhaa", sum := "b8034d9c760fdbf159c59c34e5dd72687f06596d07f8c93c196f70b02ca7ce6b", func := "loop.example/lib-g03323/laws.FnCleanInside", spec := "fnCleanInside", inPlace := ["internal/bytealg.IndexByteString"], apart := false }
def FnCleanInsideSaid : Prop := fnCleanInsideRow.holds Try.pinned (OpenSpec.ofChange fnCleanInsideSpec)

/-- ITS FALSE NEIGHBOUR: 'it returns false'. Refute it at one input. -/
def fnCleanInsideWrong : ChangeSpec := { name := "fnCleanInside", fn := fun _ => fun
  | [d1, d2, d3] => { results := [.lit (.bool false)], args := [d1, d2, d3] }
  | _ => none }
def FnCleanInsideWrongFalsely : Prop := fnCleanInsideRow.holds Try.pinned (OpenSpec.ofChange fnCleanInsideWrong)

/-- 'laws.FnCleanShorter': WHATEVER THE INPUT: true; the input reads as it did. -/
def fnCleanShorterSpec : ChangeSpec := { name := "fnCleanShorter", fn := fun _ => fun
  | [d] => { results := [.lit (.bool true)], args := [d] }
  | _ => none }
def fnCleanShorterRow : OpenClaim := { program := "ytodfjjkjkkpkhaa", sum := "b8034d9c760fdbf159c59c34e5dd72687f06596d07f8c93c196f70b02ca7ce6b", func := "loop.example/lib-g03323/laws.FnCleanShorter", spec := "fnCleanShorter", inPlace := ["internal/bytealg.IndexByteString"], apart := false }
def FnCleanShorterSaid : Prop := fnCleanShorterRow.holds Try.pinned (OpenSpec.ofChange fnCleanShorterSpec)

/-- ITS FALSE NEIGHBOUR: 'it returns false'. Refute it at one input. -/
def fnCleanShorterWrong : ChangeSpec := { name := "fnCleanShorter", fn := fun _ => fun
  | [d] => { results := [.lit (.bool false)], args := [d] }
  | _ => none }
def FnCleanShorterWrongFalsely : Prop := fnCleanShorterRow.holds Try.pinned (OpenSpec.ofChange fnCleanShorterWrong)

/-- 'laws.FnCleanTail': WHATEVER THE INPUT: true; the input reads as it did. -/
def fnCleanTailSpec : ChangeSpec := { name := "fnCleanTail", fn := fun _ => fun
  | [d1, d2] => { results := [.lit (.bool true)], args := [d1, d2] }
  | _ => none }
def fnCleanTailRow : OpenClaim := { program := "ytodfjjkjkkpkhaa", sum := "b8034d9c760fdbf159c59c34e5dd72687f06596d07f8c93c196f70b02ca7ce6b", func := "loop.example/lib-g03323/laws.FnCleanTail", spec := "fnCleanTail", inPlace := ["internal/bytealg.IndexByteString"], apart := false }
def FnCleanTailSaid : Prop := fnCleanTailRow.holds Try.pinned (OpenSpec.ofChange fnCleanTailSpec)

/-- ITS FALSE NEIGHBOUR: 'it returns false'. Refute it at one input. -/
def fnCleanTailWrong : ChangeSpec := { name := "fnCleanTail", fn := fun _ => fun
  | [d1, d2] => { results := [.lit (.bool false)], args := [d1, d2] }
  | _ => none }
def FnCleanTailWrongFalsely : Prop := fnCleanTailRow.holds Try.pinned (OpenSpec.ofChange fnCleanTailWrong)

/-- 'laws.FnCleanTwice': WHATEVER THE INPUT: true; the input reads as it did. -/
def fnCleanTwiceSpec : ChangeSpec := { name := "fnCleanTwice", fn := fun _ => fun
  | [d] => { results := [.lit (.bool true)], args := [d] }
  | _ => none }
def fnCleanTwiceRow : OpenClaim := { program := "ytodfjjkjkkpkhaa", sum := "b8034d9c760fdbf159c59c34e5dd72687f06596d07f8c93c196f70b02ca7ce6b", func := "loop.example/lib-g03323/laws.FnCleanTwice", spec := "fnCleanTwice", inPlace := ["internal/bytealg.IndexByteString"], apart := false }
def FnCleanTwiceSaid : Prop := fnCleanTwiceRow.holds Try.pinned (OpenSpec.ofChange fnCleanTwiceSpec)

/-- ITS FALSE NEIGHBOUR: 'it returns false'. Refute it at one input. -/
def fnCleanTwiceWrong : ChangeSpec := { name := "fnCleanTwice", fn := fun _ => fun
  | [d] => { results := [.lit (.bool false)], args := [d] }
  | _ => none }
def FnCleanTwiceWrongFalsely : Prop := fnCleanTwiceRow.holds Try.pinned (OpenSpec.ofChange fnCleanTwiceWrong)

/-- 'laws.FnRootUp': WHATEVER THE INPUT: true; the input reads as it did. -/
def fnRootUpSpec : ChangeSpec := { name := "fnRootUp", fn := fun _ => fun
  | [d1, d2] => { results := [.lit (.bool true)], args := [d1, d2] }
  | _ => none }
def fnRootUpRow : OpenClaim := { program := "ytodfjjkjkkpkhaa", sum := "b8034d9c760fdbf159c59c34e5dd72687f06596d07f8c93c196f70b02ca7ce6b", func := "loop.example/lib-g03323/laws.FnRootUp", spec := "fnRootUp", inPlace := ["internal/bytealg.IndexByteString"], apart := false }
def FnRootUpSaid : Prop := fnRootUpRow.holds Try.pinned (OpenSpec.ofChange fnRootUpSpec)

/-- ITS FALSE NEIGHBOUR: 'it returns false'. Refute it at one input. -/
def fnRootUpWrong : ChangeSpec := { name := "fnRootUp", fn := fun _ => fun
  | [d1, d2] => { results := [.lit (.bool false)], args := [d1, d2] }
  | _ => none }
def FnRootUpWrongFalsely : Prop := fnRootUpRow.holds Try.pinned (OpenSpec.ofChange fnRootUpWrong)

/-- 'laws.FnDir': WHATEVER THE INPUT: true; the input reads as it did. -/
def fnDirSpec : ChangeSpec := { name := "fnDir", fn := fun _ => fun
  | [d] => { results := [.lit (.bool true)], args := [d] }
  | _ => none }
def fnDirRow : OpenClaim := { program := "ytodfjjkjkkpkhaa", sum := "b8034d9c760fdbf159c59c34e5dd72687f06596d07f8c93c196f70b02ca7ce6b", func := "loop.example/lib-g03323/laws.FnDir", spec := "fnDir", inPlace := ["internal/bytealg.IndexByteString"], apart := false }
def FnDirSaid : Prop := fnDirRow.holds Try.pinned (OpenSpec.ofChange fnDirSpec)

/-- ITS FALSE NEIGHBOUR: 'it returns false'. Refute it at one input. -/
def fnDirWrong : ChangeSpec := { name := "fnDir", fn := fun _ => fun
  | [d] => { results := [.lit (.bool false)], args := [d] }
  | _ => none }
def FnDirWrongFalsely : Prop := fnDirRow.holds Try.pinned (OpenSpec.ofChange fnDirWrong)

/-- 'laws.FnDirEnd': WHATEVER THE INPUT: true; the input reads as it did. -/
def fnDirEndSpec : ChangeSpec := { name := "fnDirEnd", fn := fun _ => fun
  | [d1, d2] => { results := [.lit (.bool true)], args := [d1, d2] }
  | _ => none }
def fnDirEndRow : OpenClaim := { program := "ytodfjjkjkkpkhaa", sum := "b8034d9c760fdbf159c59c34e5dd72687f06596d07f8c93c196f70b02ca7ce6b", func := "loop.example/lib-g03323/laws.FnDirEnd", spec := "fnDirEnd", inPlace := ["internal/bytealg.IndexByteString"], apart := false }
def FnDirEndSaid : Prop := fnDirEndRow.holds Try.pinned (OpenSpec.ofChange fnDirEndSpec)

/-- ITS FALSE NEIGHBOUR: 'it returns false'. Refute it at one input. -/
def fnDirEndWrong : ChangeSpec := { name := "fnDirEnd", fn := fun _ => fun
  | [d1, d2] => { results := [.lit (.bool false)], args := [d1, d2] }
  | _ => none }
def FnDirEndWrongFalsely : Prop := fnDirEndRow.holds Try.pinned (OpenSpec.ofChange fnDirEndWrong)

/-- 'laws.FnDirTrailed': WHATEVER THE INPUT: true; the input reads as it did. -/
def fnDirTrailedSpec : ChangeSpec := { name := "fnDirTrailed", fn := fun _ => fun
  | [d] => { results := [.lit (.bool true)], args := [d] }
  | _ => none }
def fnDirTrailedRow : OpenClaim := { program := "ytodfjjkjkkpkhaa", sum := "b8034d9c760fdbf159c59c34e5dd72687f06596d07f8c93c196f70b02ca7ce6b", func := "loop.example/lib-g03323/laws.FnDirTrailed", spec := "fnDirTrailed", inPlace := ["internal/bytealg.IndexByteString"], apart := false }
def FnDirTrailedSaid : Prop := fnDirTrailedRow.holds Try.pinned (OpenSpec.ofChange fnDirTrailedSpec)

/-- ITS FALSE NEIGHBOUR: 'it returns false'. Refute it at one input. -/
def fnDirTrailedWrong : ChangeSpec := { name := "fnDirTrailed", fn := fun _ => fun
  | [d] => { results := [.lit (.bool false)], args := [d] }
  | _ => none }
def FnDirTrailedWrongFalsely : Prop := fnDirTrailedRow.holds Try.pinned (OpenSpec.ofChange fnDirTrailedWrong)

/- THE SECOND FORM. 'bulk': how many values and letters a reading holds, each counted each time it is reached (what is shared counts as often as it is met; a slice's spare places count too). A statement '..UptoSaid' is the law's where the arguments, and the package variables that the reading takes, are together of bulk at most 1048576: NARROWER than '..Said'. Prove '..Said' where nothing that the law and all that it calls make is longer than what came in: it says more and counts as full. Else prove '..UptoSaid'. A law counts once. -/
mutual
def uptoBulk {H : Type} : DataW H → Nat
  | .lit (.string bytes) => bytes.length + 1
  | .lit _ => 1
  | .nil => 1
  | .ptr d => uptoBulk d + 1
  | .slice elems spare => uptoBulkAll elems + uptoBulkAll spare + 1
  | .agg parts => uptoBulkAll parts + 1
  | .iface _ d => uptoBulk d + 1
  | .map entries => uptoBulkEntries entries + 1
  | .held _ => 1
def uptoBulkAll {H : Type} : List (DataW H) → Nat
  | [] => 0
  | d :: r => uptoBulk d + uptoBulkAll r
def uptoBulkEntries {H : Type} : List (Lit × DataW H) → Nat
  | [] => 0
  | x :: r => uptoBulkEntry x + uptoBulkEntries r
def uptoBulkEntry {H : Type} : Lit × DataW H → Nat
  | (.string bytes, d) => bytes.length + uptoBulk d + 1
  | (_, d) => uptoBulk d + 1
 end
def uptoSmall : (H : Type) → List (DataW H) → Bool := fun _ ds => decide (uptoBulkAll ds ≤ 1048576)
def OpenSpec.upto (s : _root_.Go.ChangeSpec) : _root_.Go.OpenSpec := { _root_.Go.OpenSpec.ofChange s with cond := some uptoSmall }

/-- 'laws.FnBaseTail', WHERE WHAT IT READS IS OF BULK AT MOST 1048576: true; the input reads as it did. -/
def fnBaseTailUptoRow : OpenClaim := { program := "ytodfjjkjkkpkhaa", sum := "b8034d9c760fdbf159c59c34e5dd72687f06596d07f8c93c196f70b02ca7ce6b", func := "loop.example/lib-g03323/laws.FnBaseTail", spec := "fnBaseTail", inPlace := ["internal/bytealg.IndexByteString"], apart := false, narrowed := true }
def FnBaseTailUptoSaid : Prop := fnBaseTailUptoRow.holds Try.pinned (OpenSpec.upto fnBaseTailSpec)

/-- 'laws.FnClean', WHERE WHAT IT READS IS OF BULK AT MOST 1048576: true; the input reads as it did. -/
def fnCleanUptoRow : OpenClaim := { program := "ytodfjjkjkkpkhaa", sum := "b8034d9c760fdbf159c59c34e5dd72687f06596d07f8c93c196f70b02ca7ce6b", func := "loop.example/lib-g03323/laws.FnClean", spec := "fnClean", inPlace := ["internal/bytealg.IndexByteString"], apart := false, narrowed := true }
def FnCleanUptoSaid : Prop := fnCleanUptoRow.holds Try.pinned (OpenSpec.upto fnCleanSpec)

/-- 'laws.FnCleanForm', WHERE WHAT IT READS IS OF BULK AT MOST 1048576: true; the input reads as it did. -/
def fnCleanFormUptoRow : OpenClaim := { program := "ytodfjjkjkkpkhaa", sum := "b8034d9c760fdbf159c59c34e5dd72687f06596d07f8c93c196f70b02ca7ce6b", func := "loop.example/lib-g03323/laws.FnCleanForm", spec := "fnCleanForm", inPlace := ["internal/bytealg.IndexByteString"], apart := false, narrowed := true }
def FnCleanFormUptoSaid : Prop := fnCleanFormUptoRow.holds Try.pinned (OpenSpec.upto fnCleanFormSpec)

/-- 'laws.FnCleanHead', WHERE WHAT IT READS IS OF BULK AT MOST 1048576: true; the input reads as it did. -/
def fnCleanHeadUptoRow : OpenClaim := { program := "ytodfjjkjkkpkhaa", sum := "b8034d9c760fdbf159c59c34e5dd72687f06596d07f8c93c196f70b02ca7ce6b", func := "loop.example/lib-g03323/laws.FnCleanHead", spec := "fnCleanHead", inPlace := ["internal/bytealg.IndexByteString"], apart := false, narrowed := true }
def FnCleanHeadUptoSaid : Prop := fnCleanHeadUptoRow.holds Try.pinned (OpenSpec.upto fnCleanHeadSpec)

/-- 'laws.FnCleanInside', WHERE WHAT IT READS IS OF BULK AT MOST 1048576: true; the input reads as it did. -/
def fnCleanInsideUptoRow : OpenClaim := { program := "ytodfjjkjkkpkhaa", sum := "b8034d9c760fdbf159c59c34e5dd72687f06596d07f8c93c196f70b02ca7ce6b", func := "loop.example/lib-g03323/laws.FnCleanInside", spec := "fnCleanInside", inPlace := ["internal/bytealg.IndexByteString"], apart := false, narrowed := true }
def FnCleanInsideUptoSaid : Prop := fnCleanInsideUptoRow.holds Try.pinned (OpenSpec.upto fnCleanInsideSpec)

/-- 'laws.FnCleanShorter', WHERE WHAT IT READS IS OF BULK AT MOST 1048576: true; the input reads as it did. -/
def fnCleanShorterUptoRow : OpenClaim := { program := "ytodfjjkjkkpkhaa", sum := "b8034d9c760fdbf159c59c34e5dd72687f06596d07f8c93c196f70b02ca7ce6b", func := "loop.example/lib-g03323/laws.FnCleanShorter", spec := "fnCleanShorter", inPlace := ["internal/bytealg.IndexByteString"], apart := false, narrowed := true }
def FnCleanShorterUptoSaid : Prop := fnCleanShorterUptoRow.holds Try.pinned (OpenSpec.upto fnCleanShorterSpec)

/-- 'laws.FnCleanTail', WHERE WHAT IT READS IS OF BULK AT MOST 1048576: true; the input reads as it did. -/
def fnCleanTailUptoRow : OpenClaim := { program := "ytodfjjkjkkpkhaa", sum := "b8034d9c760fdbf159c59c34e5dd72687f06596d07f8c93c196f70b02ca7ce6b", func := "loop.example/lib-g03323/laws.FnCleanTail", spec := "fnCleanTail", inPlace := ["internal/bytealg.IndexByteString"], apart := false, narrowed := true }
def FnCleanTailUptoSaid : Prop := fnCleanTailUptoRow.holds Try.pinned (OpenSpec.upto fnCleanTailSpec)

/-- 'laws.FnCleanTwice', WHERE WHAT IT READS IS OF BULK AT MOST 1048576: true; the input reads as it did. -/
def fnCleanTwiceUptoRow : OpenClaim := { program := "ytodfjjkjkkpkhaa", sum := "b8034d9c760fdbf159c59c34e5dd72687f06596d07f8c93c196f70b02ca7ce6b", func := "loop.example/lib-g03323/laws.FnCleanTwice", spec := "fnCleanTwice", inPlace := ["internal/bytealg.IndexByteString"], apart := false, narrowed := true }
def FnCleanTwiceUptoSaid : Prop := fnCleanTwiceUptoRow.holds Try.pinned (OpenSpec.upto fnCleanTwiceSpec)

/-- 'laws.FnRootUp', WHERE WHAT IT READS IS OF BULK AT MOST 1048576: true; the input reads as it did. -/
def fnRootUpUptoRow : OpenClaim := { program := "ytodfjjkjkkpkhaa", sum := "b8034d9c760fdbf159c59c34e5dd72687f06596d07f8c93c196f70b02ca7ce6b", func := "loop.example/lib-g03323/laws.FnRootUp", spec := "fnRootUp", inPlace := ["internal/bytealg.IndexByteString"], apart := false, narrowed := true }
def FnRootUpUptoSaid : Prop := fnRootUpUptoRow.holds Try.pinned (OpenSpec.upto fnRootUpSpec)

/-- 'laws.FnDir', WHERE WHAT IT READS IS OF BULK AT MOST 1048576: true; the input reads as it did. -/
def fnDirUptoRow : OpenClaim := { program := "ytodfjjkjkkpkhaa", sum := "b8034d9c760fdbf159c59c34e5dd72687f06596d07f8c93c196f70b02ca7ce6b", func := "loop.example/lib-g03323/laws.FnDir", spec := "fnDir", inPlace := ["internal/bytealg.IndexByteString"], apart := false, narrowed := true }
def FnDirUptoSaid : Prop := fnDirUptoRow.holds Try.pinned (OpenSpec.upto fnDirSpec)

/-- 'laws.FnDirEnd', WHERE WHAT IT READS IS OF BULK AT MOST 1048576: true; the input reads as it did. -/
def fnDirEndUptoRow : OpenClaim := { program := "ytodfjjkjkkpkhaa", sum := "b8034d9c760fdbf159c59c34e5dd72687f06596d07f8c93c196f70b02ca7ce6b", func := "loop.example/lib-g03323/laws.FnDirEnd", spec := "fnDirEnd", inPlace := ["internal/bytealg.IndexByteString"], apart := false, narrowed := true }
def FnDirEndUptoSaid : Prop := fnDirEndUptoRow.holds Try.pinned (OpenSpec.upto fnDirEndSpec)

/-- 'laws.FnDirTrailed', WHERE WHAT IT READS IS OF BULK AT MOST 1048576: true; the input reads as it did. -/
def fnDirTrailedUptoRow : OpenClaim := { program := "ytodfjjkjkkpkhaa", sum := "b8034d9c760fdbf159c59c34e5dd72687f06596d07f8c93c196f70b02ca7ce6b", func := "loop.example/lib-g03323/laws.FnDirTrailed", spec := "fnDirTrailed", inPlace := ["internal/bytealg.IndexByteString"], apart := false, narrowed := true }
def FnDirTrailedUptoSaid : Prop := fnDirTrailedUptoRow.holds Try.pinned (OpenSpec.upto fnDirTrailedSpec)

end Rows
end Go.Proofs.Ytodfjjkjkkpkhaa
