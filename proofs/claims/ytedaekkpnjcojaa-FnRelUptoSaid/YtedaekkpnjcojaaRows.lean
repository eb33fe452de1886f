/-
  No cell of these rows narrows 'for every input' (looked for: loops, veiled, ifaces, maps, wideKeys, modest, calm, conditions, laid).
  DERIVED. THE GIVEN ROWS OF THIS SEAT. 11 by the template 'for every input the law returns true; each argument reads behind the call as it read before'; 0 by the template 'total and deterministic' (their statements: YtedaekkpnjcojaaTotals.lean).
  GIVEN WITH THE SEED: the statements are not yours to turn. If you find one false, say at which input.
  Laid BY PROGRAM, IN A SANDBOX (cutbox-rows.mjs): the forced cells as the released guide's own fill.sh prints them over the translation b7d7d4b94645b005… (all of the seat's roots in one cut). By AI agents, Wed Nov 11 2026. No macro, syntax, notation, axiom, sorry.
-/
import Derived.Test.YtedaekkpnjcojaaChecked
import GoSem.Claim
import GoSem.ClaimJoined
import GoSem.ClaimMapViews
import Derived.JoinedTies
import Derived.KernelRfl
namespace Go.Proofs.Ytedaekkpnjcojaa
/- THE CELL 'sum', in the pinned program and in every row, IS THE sha256 OF THE DUMP (.gsa) THAT YtedaekkpnjcojaaProg.lean LOADS. Nothing in Lean hashes anything: it is a label: what it is worth is what the hold of that sum in a sandbox is worth. -/
noncomputable def Try.pinned : Pinned := { name := "ytedaekkpnjcojaa", sum := "b7d7d4b94645b0053bdc990d5266aed822785e982f57eedd18e2512d6ba2c766", checked := Try.checked }
namespace Rows
def none {H : Type} : Left H := { results := [], args := [] }

/-- 'laws.FnRelUp': WHATEVER THE INPUT: true; the input reads as it did. -/
def fnRelUpSpec : ChangeSpec := { name := "fnRelUp", fn := fun _ => fun
  | [d1, d2] => { results := [.lit (.bool true)], args := [d1, d2] }
  | _ => none }
def fnRelUpRow : OpenClaim := { program := "ytedaekkpnjcojaa", sum := "b7d7d4b94645b0053bdc990d5266aed822785e982f57eedd18e2512d6ba2c766", func := "loop.example/lib-g03323/laws.FnRelUp", spec := "fnRelUp", inPlace := ["internal/abi.NoEscape", "internal/bytealg.MakeNoZero", "internal/bytealg.IndexByteString", "internal/bytealg.CountString"], apart := false }
def FnRelUpSaid : Prop := fnRelUpRow.holds Try.pinned (OpenSpec.ofChange fnRelUpSpec)

/-- ITS FALSE NEIGHBOUR: 'it returns false'. Refute it at one input. -/
def fnRelUpWrong : ChangeSpec := { name := "fnRelUp", fn := fun _ => fun
  | [d1, d2] => { results := [.lit (.bool false)], args := [d1, d2] }
  | _ => none }
def FnRelUpWrongFalsely : Prop := fnRelUpRow.holds Try.pinned (OpenSpec.ofChange fnRelUpWrong)

/-- 'laws.FnRelBack': WHATEVER THE INPUT: true; the input reads as it did. -/
def fnRelBackSpec : ChangeSpec := { name := "fnRelBack", fn := fun _ => fun
  | [d1, d2] => { results := [.lit (.bool true)], args := [d1, d2] }
  | _ => none }
def fnRelBackRow : OpenClaim := { program := "ytedaekkpnjcojaa", sum := "b7d7d4b94645b0053bdc990d5266aed822785e982f57eedd18e2512d6ba2c766", func := "loop.example/lib-g03323/laws.FnRelBack", spec := "fnRelBack", inPlace := ["internal/bytealg.IndexByteString", "internal/bytealg.CountString", "internal/abi.NoEscape", "internal/bytealg.MakeNoZero"], apart := false }
def FnRelBackSaid : Prop := fnRelBackRow.holds Try.pinned (OpenSpec.ofChange fnRelBackSpec)

/-- ITS FALSE NEIGHBOUR: 'it returns false'. Refute it at one input. -/
def fnRelBackWrong : ChangeSpec := { name := "fnRelBack", fn := fun _ => fun
  | [d1, d2] => { results := [.lit (.bool false)], args := [d1, d2] }
  | _ => none }
def FnRelBackWrongFalsely : Prop := fnRelBackRow.holds Try.pinned (OpenSpec.ofChange fnRelBackWrong)

/-- 'laws.FnRelSelf': WHATEVER THE INPUT: true; the input reads as it did. -/
def fnRelSelfSpec : ChangeSpec := { name := "fnRelSelf", fn := fun _ => fun
  | [d1, d2] => { results := [.lit (.bool true)], args := [d1, d2] }
  | _ => none }
def fnRelSelfRow : OpenClaim := { program := "ytedaekkpnjcojaa", sum := "b7d7d4b94645b0053bdc990d5266aed822785e982f57eedd18e2512d6ba2c766", func := "loop.example/lib-g03323/laws.FnRelSelf", spec := "fnRelSelf", inPlace := ["internal/bytealg.IndexByteString", "internal/bytealg.CountString", "internal/abi.NoEscape", "internal/bytealg.MakeNoZero"], apart := false }
def FnRelSelfSaid : Prop := fnRelSelfRow.holds Try.pinned (OpenSpec.ofChange fnRelSelfSpec)

/-- ITS FALSE NEIGHBOUR: 'it returns false'. Refute it at one input. -/
def fnRelSelfWrong : ChangeSpec := { name := "fnRelSelf", fn := fun _ => fun
  | [d1, d2] => { results := [.lit (.bool false)], args := [d1, d2] }
  | _ => none }
def FnRelSelfWrongFalsely : Prop := fnRelSelfRow.holds Try.pinned (OpenSpec.ofChange fnRelSelfWrong)

/-- 'laws.FnDirClean': WHATEVER THE INPUT: true; the input reads as it did. -/
def fnDirCleanSpec : ChangeSpec := { name := "fnDirClean", fn := fun _ => fun
  | [d] => { results := [.lit (.bool true)], args := [d] }
  | _ => none }
def fnDirCleanRow : OpenClaim := { program := "ytedaekkpnjcojaa", sum := "b7d7d4b94645b0053bdc990d5266aed822785e982f57eedd18e2512d6ba2c766", func := "loop.example/lib-g03323/laws.FnDirClean", spec := "fnDirClean", inPlace := ["internal/bytealg.IndexByteString"], apart := false }
def FnDirCleanSaid : Prop := fnDirCleanRow.holds Try.pinned (OpenSpec.ofChange fnDirCleanSpec)

/-- ITS FALSE NEIGHBOUR: 'it returns false'. Refute it at one input. -/
def fnDirCleanWrong : ChangeSpec := { name := "fnDirClean", fn := fun _ => fun
  | [d] => { results := [.lit (.bool false)], args := [d] }
  | _ => none }
def FnDirCleanWrongFalsely : Prop := fnDirCleanRow.holds Try.pinned (OpenSpec.ofChange fnDirCleanWrong)

/-- 'laws.FnJoin': WHATEVER THE INPUT: true; the input reads as it did. -/
def fnJoinSpec : ChangeSpec := { name := "fnJoin", fn := fun _ => fun
  | [d] => { results := [.lit (.bool true)], args := [d] }
  | _ => none }
def fnJoinRow : OpenClaim := { program := "ytedaekkpnjcojaa", sum := "b7d7d4b94645b0053bdc990d5266aed822785e982f57eedd18e2512d6ba2c766", func := "loop.example/lib-g03323/laws.FnJoin", spec := "fnJoin", inPlace := ["internal/abi.NoEscape", "internal/bytealg.MakeNoZero", "internal/bytealg.IndexByteString"], apart := false }
def FnJoinSaid : Prop := fnJoinRow.holds Try.pinned (OpenSpec.ofChange fnJoinSpec)

/-- ITS FALSE NEIGHBOUR: 'it returns false'. Refute it at one input. -/
def fnJoinWrong : ChangeSpec := { name := "fnJoin", fn := fun _ => fun
  | [d] => { results := [.lit (.bool false)], args := [d] }
  | _ => none }
def FnJoinWrongFalsely : Prop := fnJoinRow.holds Try.pinned (OpenSpec.ofChange fnJoinWrong)

/-- 'laws.FnJoinLeft': WHATEVER THE INPUT: true; the input reads as it did. -/
def fnJoinLeftSpec : ChangeSpec := { name := "fnJoinLeft", fn := fun _ => fun
  | [d1, d2] => { results := [.lit (.bool true)], args := [d1, d2] }
  | _ => none }
def fnJoinLeftRow : OpenClaim := { program := "ytedaekkpnjcojaa", sum := "b7d7d4b94645b0053bdc990d5266aed822785e982f57eedd18e2512d6ba2c766", func := "loop.example/lib-g03323/laws.FnJoinLeft", spec := "fnJoinLeft", inPlace := ["internal/abi.NoEscape", "internal/bytealg.MakeNoZero", "internal/bytealg.IndexByteString"], apart := false }
def FnJoinLeftSaid : Prop := fnJoinLeftRow.holds Try.pinned (OpenSpec.ofChange fnJoinLeftSpec)

/-- ITS FALSE NEIGHBOUR: 'it returns false'. Refute it at one input. -/
def fnJoinLeftWrong : ChangeSpec := { name := "fnJoinLeft", fn := fun _ => fun
  | [d1, d2] => { results := [.lit (.bool false)], args := [d1, d2] }
  | _ => none }
def FnJoinLeftWrongFalsely : Prop := fnJoinLeftRow.holds Try.pinned (OpenSpec.ofChange fnJoinLeftWrong)

/-- 'laws.FnJoinTwo': WHATEVER THE INPUT: true; the input reads as it did. -/
def fnJoinTwoSpec : ChangeSpec := { name := "fnJoinTwo", fn := fun _ => fun
  | [d1, d2] => { results := [.lit (.bool true)], args := [d1, d2] }
  | _ => none }
def fnJoinTwoRow : OpenClaim := { program := "ytedaekkpnjcojaa", sum := "b7d7d4b94645b0053bdc990d5266aed822785e982f57eedd18e2512d6ba2c766", func := "loop.example/lib-g03323/laws.FnJoinTwo", spec := "fnJoinTwo", inPlace := ["internal/abi.NoEscape", "internal/bytealg.MakeNoZero", "internal/bytealg.IndexByteString"], apart := false }
def FnJoinTwoSaid : Prop := fnJoinTwoRow.holds Try.pinned (OpenSpec.ofChange fnJoinTwoSpec)

/-- ITS FALSE NEIGHBOUR: 'it returns false'. Refute it at one input. -/
def fnJoinTwoWrong : ChangeSpec := { name := "fnJoinTwo", fn := fun _ => fun
  | [d1, d2] => { results := [.lit (.bool false)], args := [d1, d2] }
  | _ => none }
def FnJoinTwoWrongFalsely : Prop := fnJoinTwoRow.holds Try.pinned (OpenSpec.ofChange fnJoinTwoWrong)

/-- 'laws.FnRel': WHATEVER THE INPUT: true; the input reads as it did. -/
def fnRelSpec : ChangeSpec := { name := "fnRel", fn := fun _ => fun
  | [d1, d2] => { results := [.lit (.bool true)], args := [d1, d2] }
  | _ => none }
def fnRelRow : OpenClaim := { program := "ytedaekkpnjcojaa", sum := "b7d7d4b94645b0053bdc990d5266aed822785e982f57eedd18e2512d6ba2c766", func := "loop.example/lib-g03323/laws.FnRel", spec := "fnRel", inPlace := ["internal/bytealg.IndexByteString", "internal/bytealg.CountString"], apart := false }
def FnRelSaid : Prop := fnRelRow.holds Try.pinned (OpenSpec.ofChange fnRelSpec)

/-- ITS FALSE NEIGHBOUR: 'it returns false'. Refute it at one input. -/
def fnRelWrong : ChangeSpec := { name := "fnRel", fn := fun _ => fun
  | [d1, d2] => { results := [.lit (.bool false)], args := [d1, d2] }
  | _ => none }
def FnRelWrongFalsely : Prop := fnRelRow.holds Try.pinned (OpenSpec.ofChange fnRelWrong)

/-- 'laws.FnRelClean': WHATEVER THE INPUT: true; the input reads as it did. -/
def fnRelCleanSpec : ChangeSpec := { name := "fnRelClean", fn := fun _ => fun
  | [d1, d2] => { results := [.lit (.bool true)], args := [d1, d2] }
  | _ => none }
def fnRelCleanRow : OpenClaim := { program := "ytedaekkpnjcojaa", sum := "b7d7d4b94645b0053bdc990d5266aed822785e982f57eedd18e2512d6ba2c766", func := "loop.example/lib-g03323/laws.FnRelClean", spec := "fnRelClean", inPlace := ["internal/bytealg.IndexByteString", "internal/bytealg.CountString"], apart := false }
def FnRelCleanSaid : Prop := fnRelCleanRow.holds Try.pinned (OpenSpec.ofChange fnRelCleanSpec)

/-- ITS FALSE NEIGHBOUR: 'it returns false'. Refute it at one input. -/
def fnRelCleanWrong : ChangeSpec := { name := "fnRelClean", fn := fun _ => fun
  | [d1, d2] => { results := [.lit (.bool false)], args := [d1, d2] }
  | _ => none }
def FnRelCleanWrongFalsely : Prop := fnRelCleanRow.holds Try.pinned (OpenSpec.ofChange fnRelCleanWrong)

/-- 'laws.FnAbsKept': WHATEVER THE INPUT: true; the input reads as it did. -/
def fnAbsKeptSpec : ChangeSpec := { name := "fnAbsKept", fn := fun _ => fun
  | [d1, d2] => { results := [.lit (.bool true)], args := [d1, d2] }
  | _ => none }
def fnAbsKeptRow : OpenClaim := { program := "ytedaekkpnjcojaa", sum := "b7d7d4b94645b0053bdc990d5266aed822785e982f57eedd18e2512d6ba2c766", func := "loop.example/lib-g03323/laws.FnAbsKept", spec := "fnAbsKept", inPlace := ["internal/bytealg.IndexByteString", "internal/abi.NoEscape", "internal/bytealg.MakeNoZero"], apart := false }
def FnAbsKeptSaid : Prop := fnAbsKeptRow.holds Try.pinned (OpenSpec.ofChange fnAbsKeptSpec)

/-- ITS FALSE NEIGHBOUR: 'it returns false'. Refute it at one input. -/
def fnAbsKeptWrong : ChangeSpec := { name := "fnAbsKept", fn := fun _ => fun
  | [d1, d2] => { results := [.lit (.bool false)], args := [d1, d2] }
  | _ => none }
def FnAbsKeptWrongFalsely : Prop := fnAbsKeptRow.holds Try.pinned (OpenSpec.ofChange fnAbsKeptWrong)

/-- 'laws.FnDirBase': WHATEVER THE INPUT: true; the input reads as it did. -/
def fnDirBaseSpec : ChangeSpec := { name := "fnDirBase", fn := fun _ => fun
  | [d] => { results := [.lit (.bool true)], args := [d] }
  | _ => none }
def fnDirBaseRow : OpenClaim := { program := "ytedaekkpnjcojaa", sum := "b7d7d4b94645b0053bdc990d5266aed822785e982f57eedd18e2512d6ba2c766", func := "loop.example/lib-g03323/laws.FnDirBase", spec := "fnDirBase", inPlace := ["internal/bytealg.IndexByteString", "internal/abi.NoEscape", "internal/bytealg.MakeNoZero"], apart := false }
def FnDirBaseSaid : Prop := fnDirBaseRow.holds Try.pinned (OpenSpec.ofChange fnDirBaseSpec)

/-- ITS FALSE NEIGHBOUR: 'it returns false'. Refute it at one input. -/
def fnDirBaseWrong : ChangeSpec := { name := "fnDirBase", fn := fun _ => fun
  | [d] => { results := [.lit (.bool false)], args := [d] }
  | _ => none }
def FnDirBaseWrongFalsely : Prop := fnDirBaseRow.holds Try.pinned (OpenSpec.ofChange fnDirBaseWrong)

/- THE SECOND FORM. 'bulk': how many values and letters a reading holds, each counted each time it is reached (what is shared counts as often as it is met; a slice's spare places count too). A statement '..UptoSaid' is the law's where the arguments, and the package variables that the reading takes, are together of bulk at most 1048576: NARROWER than '..Said'. Prove '..Said' where nothing that the law and all that it calls make is longer than what came in: it says more and counts as full. Else prove '..UptoSaid'. A law counts once. -/
mutual
def uptoBulk {H : Type} : DataW H → Nat
  | .lit (.string bytes) => bytes.length + 1
  | .lit _ => 1
  | .nil => 1
  | .ptr d => uptoBulk d + 1
  | .slice elems spare => uptoBulkAll elems + uptoBulkAll spare + 1
  | .agg parts => uptoBulkAll parts + 1
  | .iface _ d => uptoBulk d + 1
  | .map entries => uptoBulkEntries entries + 1
  | .held _ => 1
def uptoBulkAll {H : Type} : List (DataW H) → Nat
  | [] => 0
  | d :: r => uptoBulk d + uptoBulkAll r
def uptoBulkEntries {H : Type} : List (Lit × DataW H) → Nat
  | [] => 0
  | x :: r => uptoBulkEntry x + uptoBulkEntries r
def uptoBulkEntry {H : Type} : Lit × DataW H → Nat
  | (.string bytes, d) => bytes.length + uptoBulk d + 1
  | (_, d) => uptoBulk d + 1
 end
def uptoSmall : (H : Type) → List (DataW H) → Bool := fun _ ds => decide (uptoBulkAll ds ≤ 1048576)
def OpenSpec.upto (s : _root_.Go.ChangeSpec) : _root_.Go.OpenSpec := { _root_.Go.OpenSpec.ofChange s with cond := some uptoSmall }

/-- 'laws.FnRelUp', WHERE WHAT IT READS IS OF BULK AT MOST 1048576: true; the input reads as it did. -/
def fnRelUpUptoRow : OpenClaim := { program := "ytedaekkpnjcojaa", sum := "b7d7d4b94645b0053bdc990d5266aed822785e982f57eedd18e2512d6ba2c766", func := "loop.example/lib-g03323/laws.FnRelUp", spec := "fnRelUp", inPlace := ["internal/abi.NoEscape", "internal/bytealg.MakeNoZero", "internal/bytealg.IndexByteString", "internal/bytealg.CountString"], apart := false, narrowed := true }
def FnRelUpUptoSaid : Prop := fnRelUpUptoRow.holds Try.pinned (OpenSpec.upto fnRelUpSpec)

/-- 'laws.FnRelBack', WHERE WHAT IT READS IS OF BULK AT MOST 1048576: true; the input reads as it did. -/
def fnRelBackUptoRow : OpenClaim := { program := "ytedaekkpnjcojaa", sum := "b7d7d4b94645b0053bdc990d5266aed822785e982f57eedd18e2512d6ba2c766", func := "loop.example/lib-g03323/laws.FnRelBack", spec := "fnRelBack", inPlace := ["internal/bytealg.IndexByteString", "internal/bytealg.CountString", "internal/abi.NoEscape", "internal/bytealg.MakeNoZero"], apart := false, narrowed := true }
def FnRelBackUptoSaid : Prop := fnRelBackUptoRow.holds Try.pinned (OpenSpec.upto fnRelBackSpec)

/-- 'laws.FnRelSelf', WHERE WHAT IT READS IS OF BULK AT MOST 1048576: true; the input reads as it did. -/
def fnRelSelfUptoRow : OpenClaim := { program := "ytedaekkpnjcojaa", sum := "b7d7d4b94645b0053bdc990d5266aed822785e982f57eedd18e2512d6ba2c766", func := "loop.example/lib-g03323/laws.FnRelSelf", spec := "fnRelSelf", inPlace := ["internal/bytealg.IndexByteString", "internal/bytealg.CountString", "internal/abi.NoEscape", "internal/bytealg.MakeNoZero"], apart := false, narrowed := true }
def FnRelSelfUptoSaid : Prop := fnRelSelfUptoRow.holds Try.pinned (OpenSpec.upto fnRelSelfSpec)

/-- 'laws.FnDirClean', WHERE WHAT IT READS IS OF BULK AT MOST 1048576: true; the input reads as it did. -/
def fnDirCleanUptoRow : OpenClaim := { program := "ytedaekkpnjcojaa", sum := "b7d7d4b94645b0053bdc990d5266aed822785e982f57eedd18e2512d6ba2c766", func := "loop.example/lib-g03323/laws.FnDirClean", spec := "fnDirClean", inPlace := ["internal/bytealg.IndexByteString"], apart := false, narrowed := true }
def FnDirCleanUptoSaid : Prop := fnDirCleanUptoRow.holds Try.pinned (OpenSpec.upto fnDirCleanSpec)

/-- 'laws.FnJoin', WHERE WHAT IT READS IS OF BULK AT MOST 1048576: true; the input reads as it did. -/
def fnJoinUptoRow : OpenClaim := { program := "ytedaekkpnjcojaa", sum := "b7d7d4b94645b0053bdc990d5266aed822785e982f57eedd18e2512d6ba2c766", func := "loop.example/lib-g03323/laws.FnJoin", spec := "fnJoin", inPlace := ["internal/abi.NoEscape", "internal/bytealg.MakeNoZero", "internal/bytealg.IndexByteString"], apart := false, narrowed := true }
def FnJoinUptoSaid : Prop := fnJoinUptoRow.holds Try.pinned (OpenSpec.upto fnJoinSpec)

/-- 'laws.FnJoinLeft', WHERE WHAT IT READS IS OF BULK AT MOST 1048576: true; the input reads as it did. -/
def fnJoinLeftUptoRow : OpenClaim := { program := "ytedaekkpnjcojaa", sum := "b7d7d4b94645b0053bdc990d5266aed822785e982f57eedd18e2512d6ba2c766", func := "loop.example/lib-g03323/laws.FnJoinLeft", spec := "fnJoinLeft", inPlace := ["internal/abi.NoEscape", "internal/bytealg.MakeNoZero", "internal/bytealg.IndexByteString"], apart := false, narrowed := true }
def FnJoinLeftUptoSaid : Prop := fnJoinLeftUptoRow.holds Try.pinned (OpenSpec.upto fnJoinLeftSpec)

/-- 'laws.FnJoinTwo', WHERE WHAT IT READS IS OF BULK AT MOST 1048576: true; the input reads as it did. -/
def fnJoinTwoUptoRow : OpenClaim := { program := "ytedaekkpnjcojaa", sum := "b7d7d4b94645b0053bdc990d5266aed822785e982f57eedd18e2512d6ba2c766", func := "loop.example/lib-g03323/laws.FnJoinTwo", spec := "fnJoinTwo", inPlace := ["internal/abi.NoEscape", "internal/bytealg.MakeNoZero", "internal/bytealg.IndexByteString"], apart := false, narrowed := true }
def FnJoinTwoUptoSaid : Prop := fnJoinTwoUptoRow.holds Try.pinned (OpenSpec.upto fnJoinTwoSpec)

/-- 'laws.FnRel', WHERE WHAT IT READS IS OF BULK AT MOST 1048576: true; the input reads as it did. -/
def fnRelUptoRow : OpenClaim := { program := "ytedaekkpnjcojaa", sum := "b7d7d4b94645b0053bdc990d5266aed822785e982f57eedd18e2512d6ba2c766", func := "loop.example/lib-g03323/laws.FnRel", spec := "fnRel", inPlace := ["internal/bytealg.IndexByteString", "internal/bytealg.CountString"], apart := false, narrowed := true }
def FnRelUptoSaid : Prop := fnRelUptoRow.holds Try.pinned (OpenSpec.upto fnRelSpec)

/-- 'laws.FnRelClean', WHERE WHAT IT READS IS OF BULK AT MOST 1048576: true; the input reads as it did. -/
def fnRelCleanUptoRow : OpenClaim := { program := "ytedaekkpnjcojaa", sum := "b7d7d4b94645b0053bdc990d5266aed822785e982f57eedd18e2512d6ba2c766", func := "loop.example/lib-g03323/laws.FnRelClean", spec := "fnRelClean", inPlace := ["internal/bytealg.IndexByteString", "internal/bytealg.CountString"], apart := false, narrowed := true }
def FnRelCleanUptoSaid : Prop := fnRelCleanUptoRow.holds Try.pinned (OpenSpec.upto fnRelCleanSpec)

/-- 'laws.FnAbsKept', WHERE WHAT IT READS IS OF BULK AT MOST 1048576: true; the input reads as it did. -/
def fnAbsKeptUptoRow : OpenClaim := { program := "ytedaekkpnjcojaa", sum := "b7d7d4b94645b0053bdc990d5266aed822785e982f57eedd18e2512d6ba2c766", func := "loop.example/lib-g03323/laws.FnAbsKept", spec := "fnAbsKept", inPlace := ["internal/bytealg.IndexByteString", "internal/abi.NoEscape", "internal/bytealg.MakeNoZero"], apart := false, narrowed := true }
def FnAbsKeptUptoSaid : Prop := fnAbsKeptUptoRow.holds Try.pinned (OpenSpec.upto fnAbsKeptSpec)

/-- 'laws.FnDirBase', WHERE WHAT IT READS IS OF BULK AT MOST 1048576: true; the input reads as it did. -/
def fnDirBaseUptoRow : OpenClaim := { program := "ytedaekkpnjcojaa", sum := "b7d7d4b94645b0053bdc990d5266aed822785e982f57eedd18e2512d6ba2c766", func := "loop.example/lib-g03323/laws.FnDirBase", spec := "fnDirBase", inPlace := ["internal/bytealg.IndexByteString", "internal/abi.NoEscape", "internal/bytealg.MakeNoZero"], apart := false, narrowed := true }
def FnDirBaseUptoSaid : Prop := fnDirBaseUptoRow.holds Try.pinned (OpenSpec.upto fnDirBaseSpec)

end Rows
end Go.Proofs.Ytedaekkpnjcojaa
