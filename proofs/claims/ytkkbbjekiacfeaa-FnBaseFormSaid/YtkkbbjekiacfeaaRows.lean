/-
  No cell of these rows narrows 'for every input' (looked for: loops, veiled, ifaces, maps, wideKeys, modest, calm, conditions, laid).
  DERIVED. THE GIVEN ROWS OF THIS SEAT. 12 by the template 'for every input the law returns true; each argument reads behind the call as it read before'; 0 by the template 'total and deterministic' (their statements: YtkkbbjekiacfeaaTotals.lean).
  GIVEN WITH THE SEED: the statements are not yours to turn. If you find one false, say at which input.
  Laid BY PROGRAM, IN A SANDBOX (cutbox-rows.mjs): the forced cells as the released guide's own fill.sh prints them over the translation 9233c40356e9d30f… (all of the seat's roots in one cut). By AI agents, Wed Nov 11 2026. No macro, syntax, notation, axiom, sorry.
-/
import Derived.Test.YtkkbbjekiacfeaaChecked
import GoSem.Claim
import GoSem.ClaimJoined
import GoSem.ClaimMapViews
import Derived.JoinedTies
import Derived.KernelRfl
namespace Go.Proofs.Ytkkbbjekiacfeaa
/- THE CELL 'sum', in the pinned program and in every row, IS THE sha256 OF THE DUMP (.gsa) THAT YtkkbbjekiacfeaaProg.lean LOADS. Nothing in Lean hashes anything: it is a label: what it is worth is what the hold of that sum in a sandbox is worth. -/
noncomputable def Try.pinned : Pinned := { name := "ytkkbbjekiacfeaa", sum := "9233c40356e9d30f58d8a675168abbfade7b57bae3800307f1079983d8bbc8d2", checked := Try.checked }
namespace Rows
def none {H : Type} : Left H := { results := [], args := [] }

/-- 'laws.FnIsAbs': WHATEVER THE INPUT: true; the input reads as it did. -/
def fnIsAbsSpec : ChangeSpec := { name := "fnIsAbs", fn := fun _ => fun
  | [d] => { results := [.lit (.bool true)], args := [d] }
  | _ => none }
def fnIsAbsRow : OpenClaim := { program := "ytkkbbjekiacfeaa", sum := "9233c40356e9d30f58d8a675168abbfade7b57bae3800307f1079983d8bbc8d2", func := "loop.example/lib-g03323/laws.FnIsAbs", spec := "fnIsAbs", apart := false }
def FnIsAbsSaid : Prop := fnIsAbsRow.holds Try.pinned (OpenSpec.ofChange fnIsAbsSpec)

/-- ITS FALSE NEIGHBOUR: 'it returns false'. Refute it at one input. -/
def fnIsAbsWrong : ChangeSpec := { name := "fnIsAbs", fn := fun _ => fun
  | [d] => { results := [.lit (.bool false)], args := [d] }
  | _ => none }
def FnIsAbsWrongFalsely : Prop := fnIsAbsRow.holds Try.pinned (OpenSpec.ofChange fnIsAbsWrong)

/-- 'laws.FnExt': WHATEVER THE INPUT: true; the input reads as it did. -/
def fnExtSpec : ChangeSpec := { name := "fnExt", fn := fun _ => fun
  | [d] => { results := [.lit (.bool true)], args := [d] }
  | _ => none }
def fnExtRow : OpenClaim := { program := "ytkkbbjekiacfeaa", sum := "9233c40356e9d30f58d8a675168abbfade7b57bae3800307f1079983d8bbc8d2", func := "loop.example/lib-g03323/laws.FnExt", spec := "fnExt", apart := false }
def FnExtSaid : Prop := fnExtRow.holds Try.pinned (OpenSpec.ofChange fnExtSpec)

/-- ITS FALSE NEIGHBOUR: 'it returns false'. Refute it at one input. -/
def fnExtWrong : ChangeSpec := { name := "fnExt", fn := fun _ => fun
  | [d] => { results := [.lit (.bool false)], args := [d] }
  | _ => none }
def FnExtWrongFalsely : Prop := fnExtRow.holds Try.pinned (OpenSpec.ofChange fnExtWrong)

/-- 'laws.FnExtForm': WHATEVER THE INPUT: true; the input reads as it did. -/
def fnExtFormSpec : ChangeSpec := { name := "fnExtForm", fn := fun _ => fun
  | [d] => { results := [.lit (.bool true)], args := [d] }
  | _ => none }
def fnExtFormRow : OpenClaim := { program := "ytkkbbjekiacfeaa", sum := "9233c40356e9d30f58d8a675168abbfade7b57bae3800307f1079983d8bbc8d2", func := "loop.example/lib-g03323/laws.FnExtForm", spec := "fnExtForm", apart := false }
def FnExtFormSaid : Prop := fnExtFormRow.holds Try.pinned (OpenSpec.ofChange fnExtFormSpec)

/-- ITS FALSE NEIGHBOUR: 'it returns false'. Refute it at one input. -/
def fnExtFormWrong : ChangeSpec := { name := "fnExtForm", fn := fun _ => fun
  | [d] => { results := [.lit (.bool false)], args := [d] }
  | _ => none }
def FnExtFormWrongFalsely : Prop := fnExtFormRow.holds Try.pinned (OpenSpec.ofChange fnExtFormWrong)

/-- 'laws.FnExtTrailed': WHATEVER THE INPUT: true; the input reads as it did. -/
def fnExtTrailedSpec : ChangeSpec := { name := "fnExtTrailed", fn := fun _ => fun
  | [d] => { results := [.lit (.bool true)], args := [d] }
  | _ => none }
def fnExtTrailedRow : OpenClaim := { program := "ytkkbbjekiacfeaa", sum := "9233c40356e9d30f58d8a675168abbfade7b57bae3800307f1079983d8bbc8d2", func := "loop.example/lib-g03323/laws.FnExtTrailed", spec := "fnExtTrailed", apart := false }
def FnExtTrailedSaid : Prop := fnExtTrailedRow.holds Try.pinned (OpenSpec.ofChange fnExtTrailedSpec)

/-- ITS FALSE NEIGHBOUR: 'it returns false'. Refute it at one input. -/
def fnExtTrailedWrong : ChangeSpec := { name := "fnExtTrailed", fn := fun _ => fun
  | [d] => { results := [.lit (.bool false)], args := [d] }
  | _ => none }
def FnExtTrailedWrongFalsely : Prop := fnExtTrailedRow.holds Try.pinned (OpenSpec.ofChange fnExtTrailedWrong)

/-- 'laws.FnFromSlash': WHATEVER THE INPUT: true; the input reads as it did. -/
def fnFromSlashSpec : ChangeSpec := { name := "fnFromSlash", fn := fun _ => fun
  | [d] => { results := [.lit (.bool true)], args := [d] }
  | _ => none }
def fnFromSlashRow : OpenClaim := { program := "ytkkbbjekiacfeaa", sum := "9233c40356e9d30f58d8a675168abbfade7b57bae3800307f1079983d8bbc8d2", func := "loop.example/lib-g03323/laws.FnFromSlash", spec := "fnFromSlash", inPlace := ["internal/bytealg.IndexByteString"], apart := false }
def FnFromSlashSaid : Prop := fnFromSlashRow.holds Try.pinned (OpenSpec.ofChange fnFromSlashSpec)

/-- ITS FALSE NEIGHBOUR: 'it returns false'. Refute it at one input. -/
def fnFromSlashWrong : ChangeSpec := { name := "fnFromSlash", fn := fun _ => fun
  | [d] => { results := [.lit (.bool false)], args := [d] }
  | _ => none }
def FnFromSlashWrongFalsely : Prop := fnFromSlashRow.holds Try.pinned (OpenSpec.ofChange fnFromSlashWrong)

/-- 'laws.FnToSlash': WHATEVER THE INPUT: true; the input reads as it did. -/
def fnToSlashSpec : ChangeSpec := { name := "fnToSlash", fn := fun _ => fun
  | [d] => { results := [.lit (.bool true)], args := [d] }
  | _ => none }
def fnToSlashRow : OpenClaim := { program := "ytkkbbjekiacfeaa", sum := "9233c40356e9d30f58d8a675168abbfade7b57bae3800307f1079983d8bbc8d2", func := "loop.example/lib-g03323/laws.FnToSlash", spec := "fnToSlash", inPlace := ["internal/bytealg.IndexByteString"], apart := false }
def FnToSlashSaid : Prop := fnToSlashRow.holds Try.pinned (OpenSpec.ofChange fnToSlashSpec)

/-- ITS FALSE NEIGHBOUR: 'it returns false'. Refute it at one input. -/
def fnToSlashWrong : ChangeSpec := { name := "fnToSlash", fn := fun _ => fun
  | [d] => { results := [.lit (.bool false)], args := [d] }
  | _ => none }
def FnToSlashWrongFalsely : Prop := fnToSlashRow.holds Try.pinned (OpenSpec.ofChange fnToSlashWrong)

/-- 'laws.FnVolumeName': WHATEVER THE INPUT: true; the input reads as it did. -/
def fnVolumeNameSpec : ChangeSpec := { name := "fnVolumeName", fn := fun _ => fun
  | [d] => { results := [.lit (.bool true)], args := [d] }
  | _ => none }
def fnVolumeNameRow : OpenClaim := { program := "ytkkbbjekiacfeaa", sum := "9233c40356e9d30f58d8a675168abbfade7b57bae3800307f1079983d8bbc8d2", func := "loop.example/lib-g03323/laws.FnVolumeName", spec := "fnVolumeName", inPlace := ["internal/bytealg.IndexByteString"], apart := false }
def FnVolumeNameSaid : Prop := fnVolumeNameRow.holds Try.pinned (OpenSpec.ofChange fnVolumeNameSpec)

/-- ITS FALSE NEIGHBOUR: 'it returns false'. Refute it at one input. -/
def fnVolumeNameWrong : ChangeSpec := { name := "fnVolumeName", fn := fun _ => fun
  | [d] => { results := [.lit (.bool false)], args := [d] }
  | _ => none }
def FnVolumeNameWrongFalsely : Prop := fnVolumeNameRow.holds Try.pinned (OpenSpec.ofChange fnVolumeNameWrong)

/-- 'laws.FnSplit': WHATEVER THE INPUT: true; the input reads as it did. -/
def fnSplitSpec : ChangeSpec := { name := "fnSplit", fn := fun _ => fun
  | [d] => { results := [.lit (.bool true)], args := [d] }
  | _ => none }
def fnSplitRow : OpenClaim := { program := "ytkkbbjekiacfeaa", sum := "9233c40356e9d30f58d8a675168abbfade7b57bae3800307f1079983d8bbc8d2", func := "loop.example/lib-g03323/laws.FnSplit", spec := "fnSplit", inPlace := ["internal/bytealg.IndexByteString"], apart := false }
def FnSplitSaid : Prop := fnSplitRow.holds Try.pinned (OpenSpec.ofChange fnSplitSpec)

/-- ITS FALSE NEIGHBOUR: 'it returns false'. Refute it at one input. -/
def fnSplitWrong : ChangeSpec := { name := "fnSplit", fn := fun _ => fun
  | [d] => { results := [.lit (.bool false)], args := [d] }
  | _ => none }
def FnSplitWrongFalsely : Prop := fnSplitRow.holds Try.pinned (OpenSpec.ofChange fnSplitWrong)

/-- 'laws.FnSplitBack': WHATEVER THE INPUT: true; the input reads as it did. -/
def fnSplitBackSpec : ChangeSpec := { name := "fnSplitBack", fn := fun _ => fun
  | [d] => { results := [.lit (.bool true)], args := [d] }
  | _ => none }
def fnSplitBackRow : OpenClaim := { program := "ytkkbbjekiacfeaa", sum := "9233c40356e9d30f58d8a675168abbfade7b57bae3800307f1079983d8bbc8d2", func := "loop.example/lib-g03323/laws.FnSplitBack", spec := "fnSplitBack", inPlace := ["internal/bytealg.IndexByteString"], apart := false }
def FnSplitBackSaid : Prop := fnSplitBackRow.holds Try.pinned (OpenSpec.ofChange fnSplitBackSpec)

/-- ITS FALSE NEIGHBOUR: 'it returns false'. Refute it at one input. -/
def fnSplitBackWrong : ChangeSpec := { name := "fnSplitBack", fn := fun _ => fun
  | [d] => { results := [.lit (.bool false)], args := [d] }
  | _ => none }
def FnSplitBackWrongFalsely : Prop := fnSplitBackRow.holds Try.pinned (OpenSpec.ofChange fnSplitBackWrong)

/-- 'laws.FnSplitMade': WHATEVER THE INPUT: true; the input reads as it did. -/
def fnSplitMadeSpec : ChangeSpec := { name := "fnSplitMade", fn := fun _ => fun
  | [d1, d2] => { results := [.lit (.bool true)], args := [d1, d2] }
  | _ => none }
def fnSplitMadeRow : OpenClaim := { program := "ytkkbbjekiacfeaa", sum := "9233c40356e9d30f58d8a675168abbfade7b57bae3800307f1079983d8bbc8d2", func := "loop.example/lib-g03323/laws.FnSplitMade", spec := "fnSplitMade", inPlace := ["internal/bytealg.IndexByteString"], apart := false }
def FnSplitMadeSaid : Prop := fnSplitMadeRow.holds Try.pinned (OpenSpec.ofChange fnSplitMadeSpec)

/-- ITS FALSE NEIGHBOUR: 'it returns false'. Refute it at one input. -/
def fnSplitMadeWrong : ChangeSpec := { name := "fnSplitMade", fn := fun _ => fun
  | [d1, d2] => { results := [.lit (.bool false)], args := [d1, d2] }
  | _ => none }
def FnSplitMadeWrongFalsely : Prop := fnSplitMadeRow.holds Try.pinned (OpenSpec.ofChange fnSplitMadeWrong)

/-- 'laws.FnBase': WHATEVER THE INPUT: true; the input reads as it did. -/
def fnBaseSpec : ChangeSpec := { name := "fnBase", fn := fun _ => fun
  | [d] => { results := [.lit (.bool true)], args := [d] }
  | _ => none }
def fnBaseRow : OpenClaim := { program := "ytkkbbjekiacfeaa", sum := "9233c40356e9d30f58d8a675168abbfade7b57bae3800307f1079983d8bbc8d2", func := "loop.example/lib-g03323/laws.FnBase", spec := "fnBase", inPlace := ["internal/bytealg.IndexByteString"], apart := false }
def FnBaseSaid : Prop := fnBaseRow.holds Try.pinned (OpenSpec.ofChange fnBaseSpec)

/-- ITS FALSE NEIGHBOUR: 'it returns false'. Refute it at one input. -/
def fnBaseWrong : ChangeSpec := { name := "fnBase", fn := fun _ => fun
  | [d] => { results := [.lit (.bool false)], args := [d] }
  | _ => none }
def FnBaseWrongFalsely : Prop := fnBaseRow.holds Try.pinned (OpenSpec.ofChange fnBaseWrong)

/-- 'laws.FnBaseForm': WHATEVER THE INPUT: true; the input reads as it did. -/
def fnBaseFormSpec : ChangeSpec := { name := "fnBaseForm", fn := fun _ => fun
  | [d] => { results := [.lit (.bool true)], args := [d] }
  | _ => none }
def fnBaseFormRow : OpenClaim := { program := "ytkkbbjekiacfeaa", sum := "9233c40356e9d30f58d8a675168abbfade7b57bae3800307f1079983d8bbc8d2", func := "loop.example/lib-g03323/laws.FnBaseForm", spec := "fnBaseForm", inPlace := ["internal/bytealg.IndexByteString"], apart := false }
def FnBaseFormSaid : Prop := fnBaseFormRow.holds Try.pinned (OpenSpec.ofChange fnBaseFormSpec)

/-- ITS FALSE NEIGHBOUR: 'it returns false'. Refute it at one input. -/
def fnBaseFormWrong : ChangeSpec := { name := "fnBaseForm", fn := fun _ => fun
  | [d] => { results := [.lit (.bool false)], args := [d] }
  | _ => none }
def FnBaseFormWrongFalsely : Prop := fnBaseFormRow.holds Try.pinned (OpenSpec.ofChange fnBaseFormWrong)

/- THE SECOND FORM. 'bulk': how many values and letters a reading holds, each counted each time it is reached (what is shared counts as often as it is met; a slice's spare places count too). A statement '..UptoSaid' is the law's where the arguments, and the package variables that the reading takes, are together of bulk at most 1048576: NARROWER than '..Said'. Prove '..Said' where nothing that the law and all that it calls make is longer than what came in: it says more and counts as full. Else prove '..UptoSaid'. A law counts once. -/
mutual
def uptoBulk {H : Type} : DataW H → Nat
  | .lit (.string bytes) => bytes.length + 1
  | .lit _ => 1
  | .nil => 1
  | .ptr d => uptoBulk d + 1
  | .slice elems spare => uptoBulkAll elems + uptoBulkAll spare + 1
  | .agg parts => uptoBulkAll parts + 1
  | .iface _ d => uptoBulk d + 1
  | .map entries => uptoBulkEntries entries + 1
  | .held _ => 1
def uptoBulkAll {H : Type} : List (DataW H) → Nat
  | [] => 0
  | d :: r => uptoBulk d + uptoBulkAll r
def uptoBulkEntries {H : Type} : List (Lit × DataW H) → Nat
  | [] => 0
  | x :: r => uptoBulkEntry x + uptoBulkEntries r
def uptoBulkEntry {H : Type} : Lit × DataW H → Nat
  | (.string bytes, d) => bytes.length + uptoBulk d + 1
  | (_, d) => uptoBulk d + 1
 end
def uptoSmall : (H : Type) → List (DataW H) → Bool := fun _ ds => decide (uptoBulkAll ds ≤ 1048576)
def OpenSpec.upto (s : _root_.Go.ChangeSpec) : _root_.Go.OpenSpec := { _root_.Go.OpenSpec.ofChange s with cond := some uptoSmall }

/-- 'laws.FnIsAbs', WHERE WHAT IT READS IS OF BULK AT MOST 1048576: true; the input reads as it did. -/
def fnIsAbsUptoRow : OpenClaim := { program := "ytkkbbjekiacfeaa", sum := "9233c40356e9d30f58d8a675168abbfade7b57bae3800307f1079983d8bbc8d2", func := "loop.example/lib-g03323/laws.FnIsAbs", spec := "fnIsAbs", apart := false, narrowed := true }
def FnIsAbsUptoSaid : Prop := fnIsAbsUptoRow.holds Try.pinned (OpenSpec.upto fnIsAbsSpec)

/-- 'laws.FnExt', WHERE WHAT IT READS IS OF BULK AT MOST 1048576: true; the input reads as it did. -/
def fnExtUptoRow : OpenClaim := { program := "ytkkbbjekiacfeaa", sum := "9233c40356e9d30f58d8a675168abbfade7b57bae3800307f1079983d8bbc8d2", func := "loop.example/lib-g03323/laws.FnExt", spec := "fnExt", apart := false, narrowed := true }
def FnExtUptoSaid : Prop := fnExtUptoRow.holds Try.pinned (OpenSpec.upto fnExtSpec)

/-- 'laws.FnExtForm', WHERE WHAT IT READS IS OF BULK AT MOST 1048576: true; the input reads as it did. -/
def fnExtFormUptoRow : OpenClaim := { program := "ytkkbbjekiacfeaa", sum := "9233c40356e9d30f58d8a675168abbfade7b57bae3800307f1079983d8bbc8d2", func := "loop.example/lib-g03323/laws.FnExtForm", spec := "fnExtForm", apart := false, narrowed := true }
def FnExtFormUptoSaid : Prop := fnExtFormUptoRow.holds Try.pinned (OpenSpec.upto fnExtFormSpec)

/-- 'laws.FnExtTrailed', WHERE WHAT IT READS IS OF BULK AT MOST 1048576: true; the input reads as it did. -/
def fnExtTrailedUptoRow : OpenClaim := { program := "ytkkbbjekiacfeaa", sum := "9233c40356e9d30f58d8a675168abbfade7b57bae3800307f1079983d8bbc8d2", func := "loop.example/lib-g03323/laws.FnExtTrailed", spec := "fnExtTrailed", apart := false, narrowed := true }
def FnExtTrailedUptoSaid : Prop := fnExtTrailedUptoRow.holds Try.pinned (OpenSpec.upto fnExtTrailedSpec)

/-- 'laws.FnFromSlash', WHERE WHAT IT READS IS OF BULK AT MOST 1048576: true; the input reads as it did. -/
def fnFromSlashUptoRow : OpenClaim := { program := "ytkkbbjekiacfeaa", sum := "9233c40356e9d30f58d8a675168abbfade7b57bae3800307f1079983d8bbc8d2", func := "loop.example/lib-g03323/laws.FnFromSlash", spec := "fnFromSlash", inPlace := ["internal/bytealg.IndexByteString"], apart := false, narrowed := true }
def FnFromSlashUptoSaid : Prop := fnFromSlashUptoRow.holds Try.pinned (OpenSpec.upto fnFromSlashSpec)

/-- 'laws.FnToSlash', WHERE WHAT IT READS IS OF BULK AT MOST 1048576: true; the input reads as it did. -/
def fnToSlashUptoRow : OpenClaim := { program := "ytkkbbjekiacfeaa", sum := "9233c40356e9d30f58d8a675168abbfade7b57bae3800307f1079983d8bbc8d2", func := "loop.example/lib-g03323/laws.FnToSlash", spec := "fnToSlash", inPlace := ["internal/bytealg.IndexByteString"], apart := false, narrowed := true }
def FnToSlashUptoSaid : Prop := fnToSlashUptoRow.holds Try.pinned (OpenSpec.upto fnToSlashSpec)

/-- 'laws.FnVolumeName', WHERE WHAT IT READS IS OF BULK AT MOST 1048576: true; the input reads as it did. -/
def fnVolumeNameUptoRow : OpenClaim := { program := "ytkkbbjekiacfeaa", sum := "9233c40356e9d30f58d8a675168abbfade7b57bae3800307f1079983d8bbc8d2", func := "loop.example/lib-g03323/laws.FnVolumeName", spec := "fnVolumeName", inPlace := ["internal/bytealg.IndexByteString"], apart := false, narrowed := true }
def FnVolumeNameUptoSaid : Prop := fnVolumeNameUptoRow.holds Try.pinned (OpenSpec.upto fnVolumeNameSpec)

/-- 'laws.FnSplit', WHERE WHAT IT READS IS OF BULK AT MOST 1048576: true; the input reads as it did. -/
def fnSplitUptoRow : OpenClaim := { program := "ytkkbbjekiacfeaa", sum := "9233c40356e9d30f58d8a675168abbfade7b57bae3800307f1079983d8bbc8d2", func := "loop.example/lib-g03323/laws.FnSplit", spec := "fnSplit", inPlace := ["internal/bytealg.IndexByteString"], apart := false, narrowed := true }
def FnSplitUptoSaid : Prop := fnSplitUptoRow.holds Try.pinned (OpenSpec.upto fnSplitSpec)

/-- 'laws.FnSplitBack', WHERE WHAT IT READS IS OF BULK AT MOST 1048576: true; the input reads as it did. -/
def fnSplitBackUptoRow : OpenClaim := { program := "ytkkbbjekiacfeaa", sum := "9233c40356e9d30f58d8a675168abbfade7b57bae3800307f1079983d8bbc8d2", func := "loop.example/lib-g03323/laws.FnSplitBack", spec := "fnSplitBack", inPlace := ["internal/bytealg.IndexByteString"], apart := false, narrowed := true }
def FnSplitBackUptoSaid : Prop := fnSplitBackUptoRow.holds Try.pinned (OpenSpec.upto fnSplitBackSpec)

/-- 'laws.FnSplitMade', WHERE WHAT IT READS IS OF BULK AT MOST 1048576: true; the input reads as it did. -/
def fnSplitMadeUptoRow : OpenClaim := { program := "ytkkbbjekiacfeaa", sum := "9233c40356e9d30f58d8a675168abbfade7b57bae3800307f1079983d8bbc8d2", func := "loop.example/lib-g03323/laws.FnSplitMade", spec := "fnSplitMade", inPlace := ["internal/bytealg.IndexByteString"], apart := false, narrowed := true }
def FnSplitMadeUptoSaid : Prop := fnSplitMadeUptoRow.holds Try.pinned (OpenSpec.upto fnSplitMadeSpec)

/-- 'laws.FnBase', WHERE WHAT IT READS IS OF BULK AT MOST 1048576: true; the input reads as it did. -/
def fnBaseUptoRow : OpenClaim := { program := "ytkkbbjekiacfeaa", sum := "9233c40356e9d30f58d8a675168abbfade7b57bae3800307f1079983d8bbc8d2", func := "loop.example/lib-g03323/laws.FnBase", spec := "fnBase", inPlace := ["internal/bytealg.IndexByteString"], apart := false, narrowed := true }
def FnBaseUptoSaid : Prop := fnBaseUptoRow.holds Try.pinned (OpenSpec.upto fnBaseSpec)

/-- 'laws.FnBaseForm', WHERE WHAT IT READS IS OF BULK AT MOST 1048576: true; the input reads as it did. -/
def fnBaseFormUptoRow : OpenClaim := { program := "ytkkbbjekiacfeaa", sum := "9233c40356e9d30f58d8a675168abbfade7b57bae3800307f1079983d8bbc8d2", func := "loop.example/lib-g03323/laws.FnBaseForm", spec := "fnBaseForm", inPlace := ["internal/bytealg.IndexByteString"], apart := false, narrowed := true }
def FnBaseFormUptoSaid : Prop := fnBaseFormUptoRow.holds Try.pinned (OpenSpec.upto fnBaseFormSpec)

end Rows
end Go.Proofs.Ytkkbbjekiacfeaa
