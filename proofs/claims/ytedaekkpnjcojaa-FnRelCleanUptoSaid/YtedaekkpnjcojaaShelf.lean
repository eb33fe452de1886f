/-
  Contracts of library functions at this translation, laid by the kit's tools lay-shelf and lay-plain; their remarks are struck.
-/
import Derived.Shelf.Strings.Builder1
import Derived.Shelf.Strings.Builder2
import Derived.Shelf.Strings.OnBuilder
import Derived.Shelf.Strings.Builder2Cap
import Derived.Shelf.Strings.Search1
import Derived.Shelf.Strings.Prefix
import Derived.Ground.PaProg
import Derived.Shelf.Path.FileSmall
import Derived.Shelf.Path.FLazyBuf
import Derived.Shelf.Path.FCleanPre
import Derived.Shelf.Path.FCleanRel
import Derived.Shelf.Path.FCleanAbs
import Derived.Shelf.Path.FClean
import Derived.Shelf.Path.CleanRules
import Derived.Shelf.Path.FJoin
import Derived.Shelf.Path.JoinRules
import Derived.Test.YtedaekkpnjcojaaProg
namespace Go.Proofs
open Go.Shelf
def Try.lays169_ren : Go.Shelf.Ren := ⟨fun | 169 => 63 | n => n, fun | 70 => 58 | 9 => 9 | 0 => 0 | 72 => 60 | 37 => 45 | 127 => 65 | 3 => 3 | 5 => 5 | n => n, fun | n => n⟩
theorem Try.lays169 : Go.Proofs.Lays.n169 Try.prog Try.lays169_ren := {
  mixed := by kernel_rfl
  f169 := Try.func63.trans (congrArg some (by kernel_rfl))
  t0 := Try.underlying0
  a0 := Try.isAgg0
  z0 := Try.sizeOf0
  v0 := Try.zeroValue0
  t3 := Try.underlying3
  a3 := Try.isAgg3
  z3 := Try.sizeOf3
  v3 := Try.zeroValue3
  t9 := Try.underlying9
  a9 := Try.isAgg9
  z9 := Try.sizeOf9
  v9 := Try.zeroValue9
  t37 := Try.underlying45
  a37 := Try.isAgg45
  z37 := Try.sizeOf45
  v37 := Try.zeroValue45
  t70 := Try.underlying58
  a70 := Try.isAgg58
  z70 := Try.sizeOf58
  v70 := Try.zeroValue58
  t72 := Try.underlying60
  a72 := Try.isAgg60
  z72 := Try.sizeOf60
  v72 := Try.zeroValue60
  t127 := Try.underlying65
  a127 := Try.isAgg65
  z127 := Try.sizeOf65
  v127 := Try.zeroValue65 }
theorem Try.Builder_Extra_169 : Builder.Extra Try.prog Try.lays169_ren := {
  sizeBuilder := by kernel_rfl
  liesBuilder := by kernel_rfl
  t5 := Try.underlying5
  a5 := Try.isAgg5
  z5 := Try.sizeOf5
  v5 := Try.zeroValue5
  infoByte := by kernel_rfl
  cellsByte := by kernel_rfl
  sizeByte := by kernel_rfl
  neB5 := by decide }
open Go.RowKit in
theorem Try.Builder_String (B b : Nat) (l : List UInt8) (w : World) (h : Lib.IsBuilder 60 5 B b (Lib.byteCells l) w) (h0 : l ≠ []) :
    Calls Try.prog 63 #[.pointer (some ⟨b, 0, none⟩)] w fun e w' => e = .returned (.string ⟨l.toArray⟩) ∧ Below B w w' := Any.Builder_String Try.lays169 Try.Builder_Extra_169 B b l w h h0
open Go.RowKit in
theorem Try.Builder_String_empty (B b : Nat) (w : World) (h : Lib.IsBuilder 60 5 B b [] w) (hBw : B ≤ w.heap.size) :
    Calls Try.prog 63 #[.pointer (some ⟨b, 0, none⟩)] w fun e w' => e = .returned (.string ⟨#[]⟩) ∧ Below B w w' := Any.Builder_String_empty Try.lays169 Try.Builder_Extra_169 B b w h hBw
open Go.RowKit in
theorem Try.Builder_String_any (B b : Nat) (l : List UInt8) (w : World) (h : Lib.IsBuilder 60 5 B b (Lib.byteCells l) w) (hBw : B ≤ w.heap.size) :
    Calls Try.prog 63 #[.pointer (some ⟨b, 0, none⟩)] w fun e w' => e = .returned (.string ⟨l.toArray⟩) ∧ Below B w w' := Any.Builder_String_any Try.lays169 Try.Builder_Extra_169 B b l w h hBw
def Try.lays241_ren : Go.Shelf.Ren := ⟨fun | 241 => 66 | 277 => 69 | n => n, fun | 70 => 58 | 3 => 3 | 0 => 0 | 72 => 60 | 37 => 45 | 5 => 5 | n => n, fun | n => n⟩
theorem Try.lays241 : Go.Proofs.Lays.n241 Try.prog Try.lays241_ren := {
  mixed := by kernel_rfl
  f241 := Try.func66.trans (congrArg some (by kernel_rfl))
  f277 := Try.func69.trans (congrArg some (by kernel_rfl))
  t0 := Try.underlying0
  a0 := Try.isAgg0
  z0 := Try.sizeOf0
  v0 := Try.zeroValue0
  t3 := Try.underlying3
  a3 := Try.isAgg3
  z3 := Try.sizeOf3
  v3 := Try.zeroValue3
  t37 := Try.underlying45
  a37 := Try.isAgg45
  z37 := Try.sizeOf45
  v37 := Try.zeroValue45
  t70 := Try.underlying58
  a70 := Try.isAgg58
  z70 := Try.sizeOf58
  v70 := Try.zeroValue58
  t72 := Try.underlying60
  a72 := Try.isAgg60
  z72 := Try.sizeOf60
  v72 := Try.zeroValue60 }
theorem Try.Builder_Extra_241 : Builder.Extra Try.prog Try.lays241_ren := {
  sizeBuilder := by kernel_rfl
  liesBuilder := by kernel_rfl
  t5 := Try.underlying5
  a5 := Try.isAgg5
  z5 := Try.sizeOf5
  v5 := Try.zeroValue5
  infoByte := by kernel_rfl
  cellsByte := by kernel_rfl
  sizeByte := by kernel_rfl
  neB5 := by decide }
open Go.RowKit in
theorem Try.Builder_grow_fresh (B b n : Nat) (w : World) (hB : B ≤ b) (hbk : w.heap[b]? = some (.cells #[.pointer (some ⟨b, 0, none⟩), .slice none 0 0] 60 (0, 0))) (hBw : B ≤ w.heap.size) (hn : n ≤ 281474976710656) :
    Calls Try.prog 66 #[.pointer (some ⟨b, 0, none⟩), .int .i64 n] w fun e w' => e = .returned (.tuple #[]) ∧ (Lib.BuilderAt 60 5 B b (.pointer (some ⟨b, 0, none⟩)) [] w' ∧ Below B w w') := Any.Builder_grow_fresh Try.lays241 Try.Builder_Extra_241 B b n w hB hbk hBw hn
def Try.lays165_ren : Go.Shelf.Ren := ⟨fun | 165 => 61 | 240 => 65 | 241 => 66 | 276 => 68 | 277 => 69 | n => n, fun | 70 => 58 | 3 => 3 | 0 => 0 | 4 => 4 | 9 => 9 | 20 => 20 | 72 => 60 | 37 => 45 | 164 => 66 | 5 => 5 | n => n, fun | n => n⟩
theorem Try.lays165 : Go.Proofs.Lays.n165 Try.prog Try.lays165_ren := {
  mixed := by kernel_rfl
  f165 := Try.func61.trans (congrArg some (by kernel_rfl))
  f240 := Try.func65.trans (congrArg some (by kernel_rfl))
  f241 := Try.func66.trans (congrArg some (by kernel_rfl))
  f276 := Try.func68.trans (congrArg some (by kernel_rfl))
  f277 := Try.func69.trans (congrArg some (by kernel_rfl))
  t0 := Try.underlying0
  a0 := Try.isAgg0
  z0 := Try.sizeOf0
  v0 := Try.zeroValue0
  t3 := Try.underlying3
  a3 := Try.isAgg3
  z3 := Try.sizeOf3
  v3 := Try.zeroValue3
  t4 := Try.underlying4
  a4 := Try.isAgg4
  z4 := Try.sizeOf4
  v4 := Try.zeroValue4
  t9 := Try.underlying9
  a9 := Try.isAgg9
  z9 := Try.sizeOf9
  v9 := Try.zeroValue9
  t20 := Try.underlying20
  a20 := Try.isAgg20
  z20 := Try.sizeOf20
  v20 := Try.zeroValue20
  t37 := Try.underlying45
  a37 := Try.isAgg45
  z37 := Try.sizeOf45
  v37 := Try.zeroValue45
  t70 := Try.underlying58
  a70 := Try.isAgg58
  z70 := Try.sizeOf58
  v70 := Try.zeroValue58
  t72 := Try.underlying60
  a72 := Try.isAgg60
  z72 := Try.sizeOf60
  v72 := Try.zeroValue60
  t164 := Try.underlying66
  a164 := Try.isAgg66
  z164 := Try.sizeOf66
  v164 := Try.zeroValue66 }
theorem Try.Builder_Extra_165 : Builder.Extra Try.prog Try.lays165_ren := {
  sizeBuilder := by kernel_rfl
  liesBuilder := by kernel_rfl
  t5 := Try.underlying5
  a5 := Try.isAgg5
  z5 := Try.sizeOf5
  v5 := Try.zeroValue5
  infoByte := by kernel_rfl
  cellsByte := by kernel_rfl
  sizeByte := by kernel_rfl
  neB5 := by decide }
open Go.RowKit in
theorem Try.Builder_Grow_fresh (B b n : Nat) (w : World) (hB : B ≤ b) (hbk : w.heap[b]? = some (.cells #[.pointer none, .slice none 0 0] 60 (0, 0))) (hBw : B ≤ w.heap.size) (hn : n ≤ 281474976710656) :
    Calls Try.prog 61 #[.pointer (some ⟨b, 0, none⟩), .int .i64 n] w fun e w' => e = .returned (.tuple #[]) ∧ (Lib.BuilderAt 60 5 B b (.pointer (some ⟨b, 0, none⟩)) [] w' ∧ Below B w w') := Any.Builder_Grow_fresh Try.lays165 Try.Builder_Extra_165 B b n w hB hbk hBw hn
def Try.lays156_ren : Go.Shelf.Ren := ⟨fun | 156 => 53 | 165 => 61 | 166 => 62 | 169 => 63 | 240 => 65 | 241 => 66 | 276 => 68 | 277 => 69 | n => n, fun | 31 => 24 | 9 => 9 | 3 => 3 | 4 => 4 | 0 => 0 | 20 => 20 | 72 => 60 | 76 => 62 | 70 => 58 | 37 => 45 | 75 => 37 | 127 => 65 | 164 => 66 | 5 => 5 | 80 => 57 | n => n, fun | n => n⟩
theorem Try.lays156 : Go.Proofs.Lays.n156 Try.prog Try.lays156_ren := {
  mixed := by kernel_rfl
  f156 := Try.func53.trans (congrArg some (by kernel_rfl))
  f165 := Try.func61.trans (congrArg some (by kernel_rfl))
  f166 := Try.func62.trans (congrArg some (by kernel_rfl))
  f169 := Try.func63.trans (congrArg some (by kernel_rfl))
  f240 := Try.func65.trans (congrArg some (by kernel_rfl))
  f241 := Try.func66.trans (congrArg some (by kernel_rfl))
  f276 := Try.func68.trans (congrArg some (by kernel_rfl))
  f277 := Try.func69.trans (congrArg some (by kernel_rfl))
  t0 := Try.underlying0
  a0 := Try.isAgg0
  z0 := Try.sizeOf0
  v0 := Try.zeroValue0
  t3 := Try.underlying3
  a3 := Try.isAgg3
  z3 := Try.sizeOf3
  v3 := Try.zeroValue3
  t4 := Try.underlying4
  a4 := Try.isAgg4
  z4 := Try.sizeOf4
  v4 := Try.zeroValue4
  t9 := Try.underlying9
  a9 := Try.isAgg9
  z9 := Try.sizeOf9
  v9 := Try.zeroValue9
  t20 := Try.underlying20
  a20 := Try.isAgg20
  z20 := Try.sizeOf20
  v20 := Try.zeroValue20
  t31 := Try.underlying24
  a31 := Try.isAgg24
  z31 := Try.sizeOf24
  v31 := Try.zeroValue24
  t37 := Try.underlying45
  a37 := Try.isAgg45
  z37 := Try.sizeOf45
  v37 := Try.zeroValue45
  t70 := Try.underlying58
  a70 := Try.isAgg58
  z70 := Try.sizeOf58
  v70 := Try.zeroValue58
  t72 := Try.underlying60
  a72 := Try.isAgg60
  z72 := Try.sizeOf60
  v72 := Try.zeroValue60
  t75 := Try.underlying37
  a75 := Try.isAgg37
  z75 := Try.sizeOf37
  v75 := Try.zeroValue37
  t76 := Try.underlying62
  a76 := Try.isAgg62
  z76 := Try.sizeOf62
  v76 := Try.zeroValue62
  t127 := Try.underlying65
  a127 := Try.isAgg65
  z127 := Try.sizeOf65
  v127 := Try.zeroValue65
  t164 := Try.underlying66
  a164 := Try.isAgg66
  z164 := Try.sizeOf66
  v164 := Try.zeroValue66 }
theorem Try.Builder_Extra_156 : Builder.Extra Try.prog Try.lays156_ren := {
  sizeBuilder := by kernel_rfl
  liesBuilder := by kernel_rfl
  t5 := Try.underlying5
  a5 := Try.isAgg5
  z5 := Try.sizeOf5
  v5 := Try.zeroValue5
  infoByte := by kernel_rfl
  cellsByte := by kernel_rfl
  sizeByte := by kernel_rfl
  neB5 := by decide }
open Go.RowKit in
theorem Try.strings_Join_none (a : Option Addr) (c : Nat) (sep : ByteArray) (w : World) :
    Calls Try.prog 53 #[.slice a 0 c, .string sep] w fun e w' => e = .returned (.string ⟨#[]⟩) ∧ w' = w := Any.strings_Join_none Try.lays156 Try.Builder_Extra_156 a c sep w
open Go.RowKit in
theorem Try.strings_Join (bk o c : Nat) (xs : List ByteArray) (sep : ByteArray) (w : World) (hcells : ∀ (j : Nat) x, xs[j]? = some x → w.cell? ⟨bk, o + j, none⟩ = some (.string x)) (hbk : bk < w.heap.size) (hN : xs.length ≤ 140737488355328) (hcap : xs.length ≤ c) (hlen : (Lib.join (xs.map (·.data.toList)) sep.data.toList).length ≤ 140737488355328) :
    Calls Try.prog 53 #[.slice (some ⟨bk, o, none⟩) xs.length c, .string sep] w fun e w' => e = .returned (.string ⟨(Lib.join (xs.map (·.data.toList)) sep.data.toList).toArray⟩) ∧ Below w.heap.size w w' := Any.strings_Join Try.lays156 Try.Builder_Extra_156 bk o c xs sep w hcells hbk hN hcap hlen
open Go.RowKit in
theorem Try.Builder_grow_fresh_cap (B b n : Nat) (w : World) (hB : B ≤ b) (hbk : w.heap[b]? = some (.cells #[.pointer (some ⟨b, 0, none⟩), .slice none 0 0] 60 (0, 0))) (hBw : B ≤ w.heap.size) (hn : n ≤ 281474976710656) :
    Calls Try.prog 66 #[.pointer (some ⟨b, 0, none⟩), .int .i64 n] w fun e w' => e = .returned (.tuple #[]) ∧ (Lib.BuilderAt 60 5 B b (.pointer (some ⟨b, 0, none⟩)) [] w' ∧ Below B w w') ∧ ∃ p cap, w'.cell? ⟨b, 1, none⟩ = some (.slice p 0 cap) ∧ n ≤ cap := Any.Builder_grow_fresh_cap Try.lays241 Try.Builder_Extra_241 B b n w hB hbk hBw hn
open Go.RowKit in
theorem Try.Builder_Grow_fresh_cap (B b n : Nat) (w : World) (hB : B ≤ b) (hbk : w.heap[b]? = some (.cells #[.pointer none, .slice none 0 0] 60 (0, 0))) (hBw : B ≤ w.heap.size) (hn : n ≤ 281474976710656) :
    Calls Try.prog 61 #[.pointer (some ⟨b, 0, none⟩), .int .i64 n] w fun e w' => e = .returned (.tuple #[]) ∧ (Lib.BuilderAt 60 5 B b (.pointer (some ⟨b, 0, none⟩)) [] w' ∧ Below B w w') ∧ ∃ p cap, w'.cell? ⟨b, 1, none⟩ = some (.slice p 0 cap) ∧ n ≤ cap := Any.Builder_Grow_fresh_cap Try.lays165 Try.Builder_Extra_165 B b n w hB hbk hBw hn
def Try.lays217_ren : Go.Shelf.Ren := ⟨fun | 217 => 67 | 266 => 70 | n => n, fun | 9 => 9 | 5 => 5 | 3 => 3 | n => n, fun | n => n⟩
theorem Try.lays217 : Go.Proofs.Lays.n217 Try.prog Try.lays217_ren := {
  mixed := by kernel_rfl
  f217 := Try.func67.trans (congrArg some (by kernel_rfl))
  f266 := Try.func70.trans (congrArg some (by kernel_rfl))
  t3 := Try.underlying3
  a3 := Try.isAgg3
  z3 := Try.sizeOf3
  v3 := Try.zeroValue3
  t5 := Try.underlying5
  a5 := Try.isAgg5
  z5 := Try.sizeOf5
  v5 := Try.zeroValue5
  t9 := Try.underlying9
  a9 := Try.isAgg9
  z9 := Try.sizeOf9
  v9 := Try.zeroValue9 }
open Go.RowKit Go.Lib in
theorem Try.stringslite_IndexByte (s : ByteArray) (c : Int) (w : World) :
    Calls Try.prog 67 #[.string s, .int .u8 c] w fun e w' => e = .returned (.int .i64 (Lib.indexByte s.data.toList c.toNat.toUInt8)) ∧ w' = w := Any.stringslite_IndexByte Try.lays217 s c w
def Try.lays206_ren : Go.Shelf.Ren := ⟨fun | 206 => 60 | n => n, fun | 9 => 9 | 4 => 4 | 3 => 3 | n => n, fun | n => n⟩
theorem Try.lays206 : Go.Proofs.Lays.n206 Try.prog Try.lays206_ren := {
  mixed := by kernel_rfl
  f206 := Try.func60.trans (congrArg some (by kernel_rfl))
  t3 := Try.underlying3
  a3 := Try.isAgg3
  z3 := Try.sizeOf3
  v3 := Try.zeroValue3
  t4 := Try.underlying4
  a4 := Try.isAgg4
  z4 := Try.sizeOf4
  v4 := Try.zeroValue4
  t9 := Try.underlying9
  a9 := Try.isAgg9
  z9 := Try.sizeOf9
  v9 := Try.zeroValue9 }
open Go.RowKit Go.Lib in
theorem Try.stringslite_HasPrefix (s p : ByteArray) (w : World) :
    Calls Try.prog 60 #[.string s, .string p] w fun e w' => e = .returned (.bool (Lib.hasPrefix s.data.toList p.data.toList)) ∧ w' = w := Any.stringslite_HasPrefix Try.lays206 s p w
def Try.laysPa56_ren : Go.Shelf.Ren := ⟨fun | 56 => 54 | n => n, fun | 5 => 5 | 4 => 4 | n => n, fun | n => n⟩
theorem Try.laysPa56 : Go.Proofs.Lays.p56 Try.prog Try.laysPa56_ren := {
  mixed := by kernel_rfl
  f56 := Try.func54.trans (congrArg some (by kernel_rfl))
  t4 := Try.underlying4
  a4 := Try.isAgg4
  z4 := Try.sizeOf4
  v4 := Try.zeroValue4
  t5 := Try.underlying5
  a5 := Try.isAgg5
  z5 := Try.sizeOf5
  v5 := Try.zeroValue5 }
open Go.RowKit Go.Lib in
theorem Try.filepathlite_IsPathSeparator (c : Int) (w : World) :
    Calls Try.prog 54 #[.int .u8 c] w fun e w' => e = .returned (.bool (c == 47)) ∧ w' = w := Any.filepathlite_IsPathSeparator Try.laysPa56 c w
def Try.laysPa59_ren : Go.Shelf.Ren := ⟨fun | 59 => 52 | n => n, fun | 9 => 9 | 3 => 3 | n => n, fun | n => n⟩
theorem Try.laysPa59 : Go.Proofs.Lays.p59 Try.prog Try.laysPa59_ren := {
  mixed := by kernel_rfl
  f59 := Try.func52.trans (congrArg some (by kernel_rfl))
  t3 := Try.underlying3
  a3 := Try.isAgg3
  z3 := Try.sizeOf3
  v3 := Try.zeroValue3
  t9 := Try.underlying9
  a9 := Try.isAgg9
  z9 := Try.sizeOf9
  v9 := Try.zeroValue9 }
open Go.RowKit Go.Lib in
theorem Try.filepathlite_volumeNameLen (s : ByteArray) (w : World) :
    Calls Try.prog 52 #[.string s] w fun e w' => e = .returned (.int .i64 0) ∧ w' = w := Any.filepathlite_volumeNameLen Try.laysPa59 s w
def Try.laysPa60_ren : Go.Shelf.Ren := ⟨fun | 60 => 55 | 66 => 64 | 70 => 67 | 73 => 70 | n => n, fun | 9 => 9 | 5 => 5 | 3 => 3 | 4 => 4 | 30 => 45 | 0 => 0 | n => n, fun | n => n⟩
theorem Try.laysPa60 : Go.Proofs.Lays.p60 Try.prog Try.laysPa60_ren := {
  mixed := by kernel_rfl
  f60 := Try.func55.trans (congrArg some (by kernel_rfl))
  f66 := Try.func64.trans (congrArg some (by kernel_rfl))
  f70 := Try.func67.trans (congrArg some (by kernel_rfl))
  f73 := Try.func70.trans (congrArg some (by kernel_rfl))
  t0 := Try.underlying0
  a0 := Try.isAgg0
  z0 := Try.sizeOf0
  v0 := Try.zeroValue0
  t3 := Try.underlying3
  a3 := Try.isAgg3
  z3 := Try.sizeOf3
  v3 := Try.zeroValue3
  t4 := Try.underlying4
  a4 := Try.isAgg4
  z4 := Try.sizeOf4
  v4 := Try.zeroValue4
  t5 := Try.underlying5
  a5 := Try.isAgg5
  z5 := Try.sizeOf5
  v5 := Try.zeroValue5
  t9 := Try.underlying9
  a9 := Try.isAgg9
  z9 := Try.sizeOf9
  v9 := Try.zeroValue9
  t30 := Try.underlying45
  a30 := Try.isAgg45
  z30 := Try.sizeOf45
  v30 := Try.zeroValue45 }
open Go.RowKit Go.Lib in
theorem Try.filepathlite_FromSlash (s : ByteArray) (w : World) :
    Calls Try.prog 55 #[.string s] w fun e w' => e = .returned (.string s) ∧ w' = w := Any.filepathlite_FromSlash Try.laysPa60 s w
def Try.laysPa57_ren : Go.Shelf.Ren := ⟨fun | 57 => 51 | 59 => 52 | 60 => 55 | 66 => 64 | 70 => 67 | 73 => 70 | n => n, fun | 9 => 9 | 3 => 3 | 5 => 5 | 4 => 4 | 30 => 45 | 0 => 0 | n => n, fun | n => n⟩
theorem Try.laysPa57 : Go.Proofs.Lays.p57 Try.prog Try.laysPa57_ren := {
  mixed := by kernel_rfl
  f57 := Try.func51.trans (congrArg some (by kernel_rfl))
  f59 := Try.func52.trans (congrArg some (by kernel_rfl))
  f60 := Try.func55.trans (congrArg some (by kernel_rfl))
  f66 := Try.func64.trans (congrArg some (by kernel_rfl))
  f70 := Try.func67.trans (congrArg some (by kernel_rfl))
  f73 := Try.func70.trans (congrArg some (by kernel_rfl))
  t0 := Try.underlying0
  a0 := Try.isAgg0
  z0 := Try.sizeOf0
  v0 := Try.zeroValue0
  t3 := Try.underlying3
  a3 := Try.isAgg3
  z3 := Try.sizeOf3
  v3 := Try.zeroValue3
  t4 := Try.underlying4
  a4 := Try.isAgg4
  z4 := Try.sizeOf4
  v4 := Try.zeroValue4
  t5 := Try.underlying5
  a5 := Try.isAgg5
  z5 := Try.sizeOf5
  v5 := Try.zeroValue5
  t9 := Try.underlying9
  a9 := Try.isAgg9
  z9 := Try.sizeOf9
  v9 := Try.zeroValue9
  t30 := Try.underlying45
  a30 := Try.isAgg45
  z30 := Try.sizeOf45
  v30 := Try.zeroValue45 }
open Go.RowKit Go.Lib in
theorem Try.filepathlite_VolumeName (s : ByteArray) (w : World) :
    Calls Try.prog 51 #[.string s] w fun e w' => e = .returned (.string ⟨#[]⟩) ∧ w' = w := Any.filepathlite_VolumeName Try.laysPa57 s w
def Try.laysPa52_ren : Go.Shelf.Ren := ⟨fun | 52 => 49 | 58 => 60 | n => n, fun | 9 => 9 | 4 => 4 | 3 => 3 | n => n, fun | n => n⟩
theorem Try.laysPa52 : Go.Proofs.Lays.p52 Try.prog Try.laysPa52_ren := {
  mixed := by kernel_rfl
  f52 := Try.func49.trans (congrArg some (by kernel_rfl))
  f58 := Try.func60.trans (congrArg some (by kernel_rfl))
  t3 := Try.underlying3
  a3 := Try.isAgg3
  z3 := Try.sizeOf3
  v3 := Try.zeroValue3
  t4 := Try.underlying4
  a4 := Try.isAgg4
  z4 := Try.sizeOf4
  v4 := Try.zeroValue4
  t9 := Try.underlying9
  a9 := Try.isAgg9
  z9 := Try.sizeOf9
  v9 := Try.zeroValue9 }
open Go.RowKit Go.Lib in
theorem Try.filepathlite_IsAbs (s : ByteArray) (w : World) :
    Calls Try.prog 49 #[.string s] w fun e w' => e = .returned (.bool (Pa.isAbs s.data.toList)) ∧ w' = w := Any.filepathlite_IsAbs Try.laysPa52 s w
def Try.laysPa35_ren : Go.Shelf.Ren := ⟨fun | 35 => 37 | 52 => 49 | 58 => 60 | n => n, fun | 9 => 9 | 4 => 4 | 3 => 3 | n => n, fun | n => n⟩
theorem Try.laysPa35 : Go.Proofs.Lays.p35 Try.prog Try.laysPa35_ren := {
  mixed := by kernel_rfl
  f35 := Try.func37.trans (congrArg some (by kernel_rfl))
  f52 := Try.func49.trans (congrArg some (by kernel_rfl))
  f58 := Try.func60.trans (congrArg some (by kernel_rfl))
  t3 := Try.underlying3
  a3 := Try.isAgg3
  z3 := Try.sizeOf3
  v3 := Try.zeroValue3
  t4 := Try.underlying4
  a4 := Try.isAgg4
  z4 := Try.sizeOf4
  v4 := Try.zeroValue4
  t9 := Try.underlying9
  a9 := Try.isAgg9
  z9 := Try.sizeOf9
  v9 := Try.zeroValue9 }
open Go.RowKit Go.Lib in
theorem Try.filepath_IsAbs (s : ByteArray) (w : World) :
    Calls Try.prog 37 #[.string s] w fun e w' => e = .returned (.bool (Pa.isAbs s.data.toList)) ∧ w' = w := Any.filepath_IsAbs Try.laysPa35 s w
def Try.laysPa53_ren : Go.Shelf.Ren := ⟨fun | 53 => 48 | 57 => 51 | 56 => 54 | 59 => 52 | 60 => 55 | 66 => 64 | 70 => 67 | 73 => 70 | n => n, fun | 9 => 9 | 3 => 3 | 4 => 4 | 5 => 5 | 30 => 45 | 0 => 0 | n => n, fun | n => n⟩
theorem Try.laysPa53 : Go.Proofs.Lays.p53 Try.prog Try.laysPa53_ren := {
  mixed := by kernel_rfl
  f53 := Try.func48.trans (congrArg some (by kernel_rfl))
  f56 := Try.func54.trans (congrArg some (by kernel_rfl))
  f57 := Try.func51.trans (congrArg some (by kernel_rfl))
  f59 := Try.func52.trans (congrArg some (by kernel_rfl))
  f60 := Try.func55.trans (congrArg some (by kernel_rfl))
  f66 := Try.func64.trans (congrArg some (by kernel_rfl))
  f70 := Try.func67.trans (congrArg some (by kernel_rfl))
  f73 := Try.func70.trans (congrArg some (by kernel_rfl))
  t0 := Try.underlying0
  a0 := Try.isAgg0
  z0 := Try.sizeOf0
  v0 := Try.zeroValue0
  t3 := Try.underlying3
  a3 := Try.isAgg3
  z3 := Try.sizeOf3
  v3 := Try.zeroValue3
  t4 := Try.underlying4
  a4 := Try.isAgg4
  z4 := Try.sizeOf4
  v4 := Try.zeroValue4
  t5 := Try.underlying5
  a5 := Try.isAgg5
  z5 := Try.sizeOf5
  v5 := Try.zeroValue5
  t9 := Try.underlying9
  a9 := Try.isAgg9
  z9 := Try.sizeOf9
  v9 := Try.zeroValue9
  t30 := Try.underlying45
  a30 := Try.isAgg45
  z30 := Try.sizeOf45
  v30 := Try.zeroValue45 }
open Go.RowKit Go.Lib in
theorem Try.filepathlite_Split (s : ByteArray) (w : World) (hs : s.size ≤ 9223372036854775807) :
    Calls Try.prog 48 #[.string s] w fun e w' => e = .returned (.tuple #[.string ⟨(Pa.split s.data.toList).1.toArray⟩, .string ⟨(Pa.split s.data.toList).2.toArray⟩]) ∧ ∃ n, w' = w.drewN n := Any.filepathlite_Split Try.laysPa53 s w hs
def Try.laysPa49_ren : Go.Shelf.Ren := ⟨fun | 49 => 50 | 56 => 54 | 57 => 51 | 59 => 52 | 60 => 55 | 66 => 64 | 70 => 67 | 73 => 70 | n => n, fun | 9 => 9 | 4 => 4 | 3 => 3 | 5 => 5 | 30 => 45 | 0 => 0 | n => n, fun | n => n⟩
theorem Try.laysPa49 : Go.Proofs.Lays.p49 Try.prog Try.laysPa49_ren := {
  mixed := by kernel_rfl
  f49 := Try.func50.trans (congrArg some (by kernel_rfl))
  f56 := Try.func54.trans (congrArg some (by kernel_rfl))
  f57 := Try.func51.trans (congrArg some (by kernel_rfl))
  f59 := Try.func52.trans (congrArg some (by kernel_rfl))
  f60 := Try.func55.trans (congrArg some (by kernel_rfl))
  f66 := Try.func64.trans (congrArg some (by kernel_rfl))
  f70 := Try.func67.trans (congrArg some (by kernel_rfl))
  f73 := Try.func70.trans (congrArg some (by kernel_rfl))
  t0 := Try.underlying0
  a0 := Try.isAgg0
  z0 := Try.sizeOf0
  v0 := Try.zeroValue0
  t3 := Try.underlying3
  a3 := Try.isAgg3
  z3 := Try.sizeOf3
  v3 := Try.zeroValue3
  t4 := Try.underlying4
  a4 := Try.isAgg4
  z4 := Try.sizeOf4
  v4 := Try.zeroValue4
  t5 := Try.underlying5
  a5 := Try.isAgg5
  z5 := Try.sizeOf5
  v5 := Try.zeroValue5
  t9 := Try.underlying9
  a9 := Try.isAgg9
  z9 := Try.sizeOf9
  v9 := Try.zeroValue9
  t30 := Try.underlying45
  a30 := Try.isAgg45
  z30 := Try.sizeOf45
  v30 := Try.zeroValue45 }
open Go.RowKit Go.Lib in
theorem Try.filepathlite_Base (s : ByteArray) (w : World) (hs : s.size ≤ 9223372036854775807) :
    Calls Try.prog 50 #[.string s] w fun e w' => e = .returned (.string ⟨(Pa.base s.data.toList).toArray⟩) ∧ w' = w := Any.filepathlite_Base Try.laysPa49 s w hs
def Try.laysPa32_ren : Go.Shelf.Ren := ⟨fun | 32 => 38 | 49 => 50 | 56 => 54 | 57 => 51 | 59 => 52 | 60 => 55 | 66 => 64 | 70 => 67 | 73 => 70 | n => n, fun | 9 => 9 | 4 => 4 | 3 => 3 | 5 => 5 | 30 => 45 | 0 => 0 | n => n, fun | n => n⟩
theorem Try.laysPa32 : Go.Proofs.Lays.p32 Try.prog Try.laysPa32_ren := {
  mixed := by kernel_rfl
  f32 := Try.func38.trans (congrArg some (by kernel_rfl))
  f49 := Try.func50.trans (congrArg some (by kernel_rfl))
  f56 := Try.func54.trans (congrArg some (by kernel_rfl))
  f57 := Try.func51.trans (congrArg some (by kernel_rfl))
  f59 := Try.func52.trans (congrArg some (by kernel_rfl))
  f60 := Try.func55.trans (congrArg some (by kernel_rfl))
  f66 := Try.func64.trans (congrArg some (by kernel_rfl))
  f70 := Try.func67.trans (congrArg some (by kernel_rfl))
  f73 := Try.func70.trans (congrArg some (by kernel_rfl))
  t0 := Try.underlying0
  a0 := Try.isAgg0
  z0 := Try.sizeOf0
  v0 := Try.zeroValue0
  t3 := Try.underlying3
  a3 := Try.isAgg3
  z3 := Try.sizeOf3
  v3 := Try.zeroValue3
  t4 := Try.underlying4
  a4 := Try.isAgg4
  z4 := Try.sizeOf4
  v4 := Try.zeroValue4
  t5 := Try.underlying5
  a5 := Try.isAgg5
  z5 := Try.sizeOf5
  v5 := Try.zeroValue5
  t9 := Try.underlying9
  a9 := Try.isAgg9
  z9 := Try.sizeOf9
  v9 := Try.zeroValue9
  t30 := Try.underlying45
  a30 := Try.isAgg45
  z30 := Try.sizeOf45
  v30 := Try.zeroValue45 }
open Go.RowKit Go.Lib in
theorem Try.filepath_Base (s : ByteArray) (w : World) (hs : s.size ≤ 9223372036854775807) :
    Calls Try.prog 38 #[.string s] w fun e w' => e = .returned (.string ⟨(Pa.base s.data.toList).toArray⟩) ∧ w' = w := Any.filepath_Base Try.laysPa32 s w hs
def Try.laysPa36_ren : Go.Shelf.Ren := ⟨fun | 36 => 36 | 53 => 48 | 57 => 51 | 56 => 54 | 59 => 52 | 60 => 55 | 66 => 64 | 70 => 67 | 73 => 70 | n => n, fun | 9 => 9 | 24 => 30 | 3 => 3 | 4 => 4 | 5 => 5 | 30 => 45 | 0 => 0 | n => n, fun | n => n⟩
theorem Try.laysPa36 : Go.Proofs.Lays.p36 Try.prog Try.laysPa36_ren := {
  mixed := by kernel_rfl
  f36 := Try.func36.trans (congrArg some (by kernel_rfl))
  f53 := Try.func48.trans (congrArg some (by kernel_rfl))
  f56 := Try.func54.trans (congrArg some (by kernel_rfl))
  f57 := Try.func51.trans (congrArg some (by kernel_rfl))
  f59 := Try.func52.trans (congrArg some (by kernel_rfl))
  f60 := Try.func55.trans (congrArg some (by kernel_rfl))
  f66 := Try.func64.trans (congrArg some (by kernel_rfl))
  f70 := Try.func67.trans (congrArg some (by kernel_rfl))
  f73 := Try.func70.trans (congrArg some (by kernel_rfl))
  t0 := Try.underlying0
  a0 := Try.isAgg0
  z0 := Try.sizeOf0
  v0 := Try.zeroValue0
  t3 := Try.underlying3
  a3 := Try.isAgg3
  z3 := Try.sizeOf3
  v3 := Try.zeroValue3
  t4 := Try.underlying4
  a4 := Try.isAgg4
  z4 := Try.sizeOf4
  v4 := Try.zeroValue4
  t5 := Try.underlying5
  a5 := Try.isAgg5
  z5 := Try.sizeOf5
  v5 := Try.zeroValue5
  t9 := Try.underlying9
  a9 := Try.isAgg9
  z9 := Try.sizeOf9
  v9 := Try.zeroValue9
  t24 := Try.underlying30
  a24 := Try.isAgg30
  z24 := Try.sizeOf30
  v24 := Try.zeroValue30
  t30 := Try.underlying45
  a30 := Try.isAgg45
  z30 := Try.sizeOf45
  v30 := Try.zeroValue45 }
open Go.RowKit Go.Lib in
theorem Try.filepath_Split (s : ByteArray) (w : World) (hs : s.size ≤ 9223372036854775807) :
    Calls Try.prog 36 #[.string s] w fun e w' => e = .returned (.tuple #[.string ⟨(Pa.split s.data.toList).1.toArray⟩, .string ⟨(Pa.split s.data.toList).2.toArray⟩]) ∧ ∃ n, w' = w.drewN n := Any.filepath_Split Try.laysPa36 s w hs
def Try.laysPa62_ren : Go.Shelf.Ren := ⟨fun | 62 => 57 | n => n, fun | 55 => 56 | 3 => 3 | 5 => 5 | 0 => 0 | 53 => 52 | 30 => 45 | 4 => 4 | 9 => 9 | n => n, fun | n => n⟩
theorem Try.laysPa62 : Go.Proofs.Lays.p62 Try.prog Try.laysPa62_ren := {
  mixed := by kernel_rfl
  f62 := Try.func57.trans (congrArg some (by kernel_rfl))
  t0 := Try.underlying0
  a0 := Try.isAgg0
  z0 := Try.sizeOf0
  v0 := Try.zeroValue0
  t3 := Try.underlying3
  a3 := Try.isAgg3
  z3 := Try.sizeOf3
  v3 := Try.zeroValue3
  t4 := Try.underlying4
  a4 := Try.isAgg4
  z4 := Try.sizeOf4
  v4 := Try.zeroValue4
  t5 := Try.underlying5
  a5 := Try.isAgg5
  z5 := Try.sizeOf5
  v5 := Try.zeroValue5
  t9 := Try.underlying9
  a9 := Try.isAgg9
  z9 := Try.sizeOf9
  v9 := Try.zeroValue9
  t30 := Try.underlying45
  a30 := Try.isAgg45
  z30 := Try.sizeOf45
  v30 := Try.zeroValue45
  t53 := Try.underlying52
  a53 := Try.isAgg52
  z53 := Try.sizeOf52
  v53 := Try.zeroValue52
  t55 := Try.underlying56
  a55 := Try.isAgg56
  z55 := Try.sizeOf56
  v55 := Try.zeroValue56 }
open Go.RowKit Go.Lib in
theorem Try.flazybuf_index (B : Nat) (s : ByteArray) (c : List UInt8) (wv i : Nat) (w : World) (hz : Lz.Lazy5 52 5 B s c wv w) (hi : i < s.size) :
    Calls Try.prog 57 #[.pointer (some ⟨B, 0, none⟩), .int .i64 i] w fun e w' => e = .returned (.int .u8 ((c[i]?.getD 0).toNat : Int)) ∧ w' = w := Any.flazybuf_index Try.laysPa62 B s c wv i w hz hi
def Try.laysPa64_ren : Go.Shelf.Ren := ⟨fun | 64 => 59 | n => n, fun | 55 => 56 | 9 => 9 | 0 => 0 | 53 => 52 | 30 => 45 | 4 => 4 | 3 => 3 | 5 => 5 | n => n, fun | n => n⟩
theorem Try.laysPa64 : Go.Proofs.Lays.p64 Try.prog Try.laysPa64_ren := {
  mixed := by kernel_rfl
  f64 := Try.func59.trans (congrArg some (by kernel_rfl))
  t0 := Try.underlying0
  a0 := Try.isAgg0
  z0 := Try.sizeOf0
  v0 := Try.zeroValue0
  t3 := Try.underlying3
  a3 := Try.isAgg3
  z3 := Try.sizeOf3
  v3 := Try.zeroValue3
  t4 := Try.underlying4
  a4 := Try.isAgg4
  z4 := Try.sizeOf4
  v4 := Try.zeroValue4
  t5 := Try.underlying5
  a5 := Try.isAgg5
  z5 := Try.sizeOf5
  v5 := Try.zeroValue5
  t9 := Try.underlying9
  a9 := Try.isAgg9
  z9 := Try.sizeOf9
  v9 := Try.zeroValue9
  t30 := Try.underlying45
  a30 := Try.isAgg45
  z30 := Try.sizeOf45
  v30 := Try.zeroValue45
  t53 := Try.underlying52
  a53 := Try.isAgg52
  z53 := Try.sizeOf52
  v53 := Try.zeroValue52
  t55 := Try.underlying56
  a55 := Try.isAgg56
  z55 := Try.sizeOf56
  v55 := Try.zeroValue56 }
open Go.RowKit Go.Lib in
theorem Try.flazybuf_string (B : Nat) (s : ByteArray) (c : List UInt8) (wv : Nat) (w : World) (hz : Lz.Lazy5 52 5 B s c wv w) (hw : wv ≤ s.size) (hbig : s.size ≤ 281474976710656) :
    Calls Try.prog 59 #[.pointer (some ⟨B, 0, none⟩)] w fun e w' => e = .returned (.string ⟨(c.take wv).toArray⟩) ∧ ∃ n, w' = w.drewN n := Any.flazybuf_string Try.laysPa64 B s c wv w hz hw hbig
def Try.laysPah61_ren : Go.Shelf.Ren := ⟨fun | 61 => 56 | n => n, fun | 55 => 56 | 5 => 5 | 0 => 0 | 53 => 52 | 30 => 45 | 4 => 4 | 3 => 3 | 9 => 9 | n => n, fun | n => n⟩
theorem Try.laysPah61 : Go.Proofs.Lays.ph61 Try.prog Try.laysPah61_ren := {
  mixed := by kernel_rfl
  f61 := Try.func56.trans (congrArg some (by kernel_rfl))
  t0 := Try.underlying0
  a0 := Try.isAgg0
  z0 := Try.sizeOf0
  v0 := Try.zeroValue0
  t3 := Try.underlying3
  a3 := Try.isAgg3
  z3 := Try.sizeOf3
  v3 := Try.zeroValue3
  t4 := Try.underlying4
  a4 := Try.isAgg4
  z4 := Try.sizeOf4
  v4 := Try.zeroValue4
  t5 := Try.underlying5
  a5 := Try.isAgg5
  z5 := Try.sizeOf5
  v5 := Try.zeroValue5
  t9 := Try.underlying9
  a9 := Try.isAgg9
  z9 := Try.sizeOf9
  v9 := Try.zeroValue9
  t30 := Try.underlying45
  a30 := Try.isAgg45
  z30 := Try.sizeOf45
  v30 := Try.zeroValue45
  t53 := Try.underlying52
  a53 := Try.isAgg52
  z53 := Try.sizeOf52
  v53 := Try.zeroValue52
  t55 := Try.underlying56
  a55 := Try.isAgg56
  z55 := Try.sizeOf56
  v55 := Try.zeroValue56
  info5 := by kernel_rfl }
open Go.RowKit Go.Lib in
theorem Try.flazybuf_append (B : Nat) (s : ByteArray) (c : List UInt8) (wv : Nat) (x : UInt8) (w : World) (hz : Lz.Lazy5 52 5 B s c wv w) (hw : wv < s.size) (hbig : s.size ≤ 281474976710656) :
    Calls Try.prog 56 #[.pointer (some ⟨B, 0, none⟩), .int .u8 (x.toNat : Int)] w fun e w' => e = .returned (.tuple #[]) ∧ ∃ c', Lz.Lazy5 52 5 B s c' (wv + 1) w' ∧ c'.take (wv + 1) = c.take wv ++ [x] ∧ Below B w w' := Any.flazybuf_append Try.laysPah61 B s c wv x w hz hw hbig
open Go.RowKit Go.Lib in
theorem Try.flazybuf_append47 (B : Nat) (s : ByteArray) (c : List UInt8) (wv : Nat) (w : World) (hz : Lz.Lazy5 52 5 B s c wv w) (hw : wv < s.size) (hbig : s.size ≤ 281474976710656) :
    Calls Try.prog 56 #[.pointer (some ⟨B, 0, none⟩), .int .u8 47] w fun e w' => e = .returned (.tuple #[]) ∧ ∃ c', Lz.Lazy5 52 5 B s c' (wv + 1) w' ∧ c'.take (wv + 1) = c.take wv ++ [47] ∧ Below B w w' := Any.flazybuf_append47 Try.laysPah61 B s c wv w hz hw hbig
open Go.RowKit Go.Lib in
theorem Try.flazybuf_append46 (B : Nat) (s : ByteArray) (c : List UInt8) (wv : Nat) (w : World) (hz : Lz.Lazy5 52 5 B s c wv w) (hw : wv < s.size) (hbig : s.size ≤ 281474976710656) :
    Calls Try.prog 56 #[.pointer (some ⟨B, 0, none⟩), .int .u8 46] w fun e w' => e = .returned (.tuple #[]) ∧ ∃ c', Lz.Lazy5 52 5 B s c' (wv + 1) w' ∧ c'.take (wv + 1) = c.take wv ++ [46] ∧ Below B w w' := Any.flazybuf_append46 Try.laysPah61 B s c wv w hz hw hbig
def Try.laysPa63_ren : Go.Shelf.Ren := ⟨fun | 63 => 58 | n => n, fun | 55 => 56 | 53 => 52 | 9 => 9 | 30 => 45 | 3 => 3 | 5 => 5 | n => n, fun | n => n⟩
theorem Try.laysPa63 : Go.Proofs.Lays.p63 Try.prog Try.laysPa63_ren := {
  mixed := by kernel_rfl
  f63 := Try.func58.trans (congrArg some (by kernel_rfl))
  t3 := Try.underlying3
  a3 := Try.isAgg3
  z3 := Try.sizeOf3
  v3 := Try.zeroValue3
  t5 := Try.underlying5
  a5 := Try.isAgg5
  z5 := Try.sizeOf5
  v5 := Try.zeroValue5
  t9 := Try.underlying9
  a9 := Try.isAgg9
  z9 := Try.sizeOf9
  v9 := Try.zeroValue9
  t30 := Try.underlying45
  a30 := Try.isAgg45
  z30 := Try.sizeOf45
  v30 := Try.zeroValue45
  t53 := Try.underlying52
  a53 := Try.isAgg52
  z53 := Try.sizeOf52
  v53 := Try.zeroValue52
  t55 := Try.underlying56
  a55 := Try.isAgg56
  z55 := Try.sizeOf56
  v55 := Try.zeroValue56 }
open Go.RowKit Go.Lib in
theorem Try.filepathlite_postClean (v : Value) (w : World) :
    Calls Try.prog 58 #[v] w fun e w' => e = .returned (.tuple #[]) ∧ w' = w := Any.filepathlite_postClean Try.laysPa63 v w
def Try.laysPah54_ren : Go.Shelf.Ren := ⟨fun | 54 => 46 | 59 => 52 | 56 => 54 | 60 => 55 | 61 => 56 | 62 => 57 | 63 => 58 | 64 => 59 | 66 => 64 | 70 => 67 | 73 => 70 | n => n, fun | 9 => 9 | 3 => 3 | 4 => 4 | 5 => 5 | 53 => 52 | 0 => 0 | 55 => 56 | 30 => 45 | n => n, fun | n => n⟩
theorem Try.laysPah54 : Go.Proofs.Lays.ph54 Try.prog Try.laysPah54_ren := {
  mixed := by kernel_rfl
  f54 := Try.func46.trans (congrArg some (by kernel_rfl))
  f56 := Try.func54.trans (congrArg some (by kernel_rfl))
  f59 := Try.func52.trans (congrArg some (by kernel_rfl))
  f60 := Try.func55.trans (congrArg some (by kernel_rfl))
  f61 := Try.func56.trans (congrArg some (by kernel_rfl))
  f62 := Try.func57.trans (congrArg some (by kernel_rfl))
  f63 := Try.func58.trans (congrArg some (by kernel_rfl))
  f64 := Try.func59.trans (congrArg some (by kernel_rfl))
  f66 := Try.func64.trans (congrArg some (by kernel_rfl))
  f70 := Try.func67.trans (congrArg some (by kernel_rfl))
  f73 := Try.func70.trans (congrArg some (by kernel_rfl))
  t0 := Try.underlying0
  a0 := Try.isAgg0
  z0 := Try.sizeOf0
  v0 := Try.zeroValue0
  t3 := Try.underlying3
  a3 := Try.isAgg3
  z3 := Try.sizeOf3
  v3 := Try.zeroValue3
  t4 := Try.underlying4
  a4 := Try.isAgg4
  z4 := Try.sizeOf4
  v4 := Try.zeroValue4
  t5 := Try.underlying5
  a5 := Try.isAgg5
  z5 := Try.sizeOf5
  v5 := Try.zeroValue5
  t9 := Try.underlying9
  a9 := Try.isAgg9
  z9 := Try.sizeOf9
  v9 := Try.zeroValue9
  t30 := Try.underlying45
  a30 := Try.isAgg45
  z30 := Try.sizeOf45
  v30 := Try.zeroValue45
  t53 := Try.underlying52
  a53 := Try.isAgg52
  z53 := Try.sizeOf52
  v53 := Try.zeroValue52
  t55 := Try.underlying56
  a55 := Try.isAgg56
  z55 := Try.sizeOf56
  v55 := Try.zeroValue56
  info5 := by kernel_rfl }
open Go.RowKit Go.Lib in
theorem Try.filepathlite_Clean_rel (s : ByteArray) (w : World) (hbig : s.size ≤ 281474976710656) (h0 : 0 < s.size) (hro : (s[0]'h0) ≠ 47) (R RR : List UInt8) (hR : Pa.cleanLoop s.data.toList false s.data.toList.length [] 0 0 = R) (hRR : (if R = [] then [46] else R) = RR) :
    Calls Try.prog 46 #[.string s] w fun e w' => e = .returned (.string ⟨RR.toArray⟩) ∧ RR.length ≤ s.size ∧ Below w.heap.size w w' := Any.filepathlite_Clean_rel Try.laysPah54 s w hbig h0 hro R RR hR hRR
open Go.RowKit Go.Lib in
theorem Try.filepathlite_Clean_abs (s : ByteArray) (w : World) (hbig : s.size ≤ 281474976710656) (h0 : 0 < s.size) (hro : (s[0]'h0) = 47) (R RR : List UInt8) (hR : Pa.cleanLoop s.data.toList true s.data.toList.length [47] 1 1 = R) (hRR : (if R = [] then [46] else R) = RR) :
    Calls Try.prog 46 #[.string s] w fun e w' => e = .returned (.string ⟨RR.toArray⟩) ∧ RR.length ≤ s.size ∧ Below w.heap.size w w' := Any.filepathlite_Clean_abs Try.laysPah54 s w hbig h0 hro R RR hR hRR
open Go.RowKit Go.Lib in
theorem Try.filepathlite_Clean (s : ByteArray) (w : World) (hbig : s.size ≤ 281474976710656) :
    Calls Try.prog 46 #[.string s] w fun e w' => e = .returned (.string ⟨(Pa.clean s.data.toList).toArray⟩) ∧ (Pa.clean s.data.toList).length ≤ s.size + 1 ∧ Below w.heap.size w w' := Any.filepathlite_Clean Try.laysPah54 s w hbig
def Try.laysPah37_ren : Go.Shelf.Ren := ⟨fun | 37 => 34 | 54 => 46 | 59 => 52 | 56 => 54 | 60 => 55 | 61 => 56 | 62 => 57 | 63 => 58 | 64 => 59 | 66 => 64 | 70 => 67 | 73 => 70 | n => n, fun | 9 => 9 | 3 => 3 | 4 => 4 | 5 => 5 | 53 => 52 | 0 => 0 | 55 => 56 | 30 => 45 | n => n, fun | n => n⟩
theorem Try.laysPah37 : Go.Proofs.Lays.ph37 Try.prog Try.laysPah37_ren := {
  mixed := by kernel_rfl
  f37 := Try.func34.trans (congrArg some (by kernel_rfl))
  f54 := Try.func46.trans (congrArg some (by kernel_rfl))
  f56 := Try.func54.trans (congrArg some (by kernel_rfl))
  f59 := Try.func52.trans (congrArg some (by kernel_rfl))
  f60 := Try.func55.trans (congrArg some (by kernel_rfl))
  f61 := Try.func56.trans (congrArg some (by kernel_rfl))
  f62 := Try.func57.trans (congrArg some (by kernel_rfl))
  f63 := Try.func58.trans (congrArg some (by kernel_rfl))
  f64 := Try.func59.trans (congrArg some (by kernel_rfl))
  f66 := Try.func64.trans (congrArg some (by kernel_rfl))
  f70 := Try.func67.trans (congrArg some (by kernel_rfl))
  f73 := Try.func70.trans (congrArg some (by kernel_rfl))
  t0 := Try.underlying0
  a0 := Try.isAgg0
  z0 := Try.sizeOf0
  v0 := Try.zeroValue0
  t3 := Try.underlying3
  a3 := Try.isAgg3
  z3 := Try.sizeOf3
  v3 := Try.zeroValue3
  t4 := Try.underlying4
  a4 := Try.isAgg4
  z4 := Try.sizeOf4
  v4 := Try.zeroValue4
  t5 := Try.underlying5
  a5 := Try.isAgg5
  z5 := Try.sizeOf5
  v5 := Try.zeroValue5
  t9 := Try.underlying9
  a9 := Try.isAgg9
  z9 := Try.sizeOf9
  v9 := Try.zeroValue9
  t30 := Try.underlying45
  a30 := Try.isAgg45
  z30 := Try.sizeOf45
  v30 := Try.zeroValue45
  t53 := Try.underlying52
  a53 := Try.isAgg52
  z53 := Try.sizeOf52
  v53 := Try.zeroValue52
  t55 := Try.underlying56
  a55 := Try.isAgg56
  z55 := Try.sizeOf56
  v55 := Try.zeroValue56
  info5 := by kernel_rfl }
open Go.RowKit Go.Lib in
theorem Try.filepath_Clean (s : ByteArray) (w : World) (hbig : s.size ≤ 281474976710656) :
    Calls Try.prog 34 #[.string s] w fun e w' => e = .returned (.string ⟨(Pa.clean s.data.toList).toArray⟩) ∧ Below w.heap.size w w' := Any.filepath_Clean Try.laysPah37 s w hbig
def Try.laysPah51_ren : Go.Shelf.Ren := ⟨fun | 51 => 47 | 57 => 51 | 56 => 54 | 54 => 46 | 59 => 52 | 60 => 55 | 61 => 56 | 62 => 57 | 63 => 58 | 64 => 59 | 66 => 64 | 70 => 67 | 73 => 70 | n => n, fun | 9 => 9 | 3 => 3 | 4 => 4 | 5 => 5 | 53 => 52 | 0 => 0 | 55 => 56 | 30 => 45 | n => n, fun | n => n⟩
theorem Try.laysPah51 : Go.Proofs.Lays.ph51 Try.prog Try.laysPah51_ren := {
  mixed := by kernel_rfl
  f51 := Try.func47.trans (congrArg some (by kernel_rfl))
  f54 := Try.func46.trans (congrArg some (by kernel_rfl))
  f56 := Try.func54.trans (congrArg some (by kernel_rfl))
  f57 := Try.func51.trans (congrArg some (by kernel_rfl))
  f59 := Try.func52.trans (congrArg some (by kernel_rfl))
  f60 := Try.func55.trans (congrArg some (by kernel_rfl))
  f61 := Try.func56.trans (congrArg some (by kernel_rfl))
  f62 := Try.func57.trans (congrArg some (by kernel_rfl))
  f63 := Try.func58.trans (congrArg some (by kernel_rfl))
  f64 := Try.func59.trans (congrArg some (by kernel_rfl))
  f66 := Try.func64.trans (congrArg some (by kernel_rfl))
  f70 := Try.func67.trans (congrArg some (by kernel_rfl))
  f73 := Try.func70.trans (congrArg some (by kernel_rfl))
  t0 := Try.underlying0
  a0 := Try.isAgg0
  z0 := Try.sizeOf0
  v0 := Try.zeroValue0
  t3 := Try.underlying3
  a3 := Try.isAgg3
  z3 := Try.sizeOf3
  v3 := Try.zeroValue3
  t4 := Try.underlying4
  a4 := Try.isAgg4
  z4 := Try.sizeOf4
  v4 := Try.zeroValue4
  t5 := Try.underlying5
  a5 := Try.isAgg5
  z5 := Try.sizeOf5
  v5 := Try.zeroValue5
  t9 := Try.underlying9
  a9 := Try.isAgg9
  z9 := Try.sizeOf9
  v9 := Try.zeroValue9
  t30 := Try.underlying45
  a30 := Try.isAgg45
  z30 := Try.sizeOf45
  v30 := Try.zeroValue45
  t53 := Try.underlying52
  a53 := Try.isAgg52
  z53 := Try.sizeOf52
  v53 := Try.zeroValue52
  t55 := Try.underlying56
  a55 := Try.isAgg56
  z55 := Try.sizeOf56
  v55 := Try.zeroValue56
  info5 := by kernel_rfl }
open Go.RowKit Go.Lib in
theorem Try.filepathlite_Dir (s : ByteArray) (w : World) (hbig : s.size ≤ 281474976710656) :
    Calls Try.prog 47 #[.string s] w fun e w' => e = .returned (.string ⟨(Pa.dir s.data.toList).toArray⟩) ∧ Below w.heap.size w w' := Any.filepathlite_Dir Try.laysPah51 s w hbig
def Try.laysPah34_ren : Go.Shelf.Ren := ⟨fun | 34 => 35 | 51 => 47 | 57 => 51 | 56 => 54 | 54 => 46 | 59 => 52 | 60 => 55 | 61 => 56 | 62 => 57 | 63 => 58 | 64 => 59 | 66 => 64 | 70 => 67 | 73 => 70 | n => n, fun | 9 => 9 | 3 => 3 | 4 => 4 | 5 => 5 | 53 => 52 | 0 => 0 | 55 => 56 | 30 => 45 | n => n, fun | n => n⟩
theorem Try.laysPah34 : Go.Proofs.Lays.ph34 Try.prog Try.laysPah34_ren := {
  mixed := by kernel_rfl
  f34 := Try.func35.trans (congrArg some (by kernel_rfl))
  f51 := Try.func47.trans (congrArg some (by kernel_rfl))
  f54 := Try.func46.trans (congrArg some (by kernel_rfl))
  f56 := Try.func54.trans (congrArg some (by kernel_rfl))
  f57 := Try.func51.trans (congrArg some (by kernel_rfl))
  f59 := Try.func52.trans (congrArg some (by kernel_rfl))
  f60 := Try.func55.trans (congrArg some (by kernel_rfl))
  f61 := Try.func56.trans (congrArg some (by kernel_rfl))
  f62 := Try.func57.trans (congrArg some (by kernel_rfl))
  f63 := Try.func58.trans (congrArg some (by kernel_rfl))
  f64 := Try.func59.trans (congrArg some (by kernel_rfl))
  f66 := Try.func64.trans (congrArg some (by kernel_rfl))
  f70 := Try.func67.trans (congrArg some (by kernel_rfl))
  f73 := Try.func70.trans (congrArg some (by kernel_rfl))
  t0 := Try.underlying0
  a0 := Try.isAgg0
  z0 := Try.sizeOf0
  v0 := Try.zeroValue0
  t3 := Try.underlying3
  a3 := Try.isAgg3
  z3 := Try.sizeOf3
  v3 := Try.zeroValue3
  t4 := Try.underlying4
  a4 := Try.isAgg4
  z4 := Try.sizeOf4
  v4 := Try.zeroValue4
  t5 := Try.underlying5
  a5 := Try.isAgg5
  z5 := Try.sizeOf5
  v5 := Try.zeroValue5
  t9 := Try.underlying9
  a9 := Try.isAgg9
  z9 := Try.sizeOf9
  v9 := Try.zeroValue9
  t30 := Try.underlying45
  a30 := Try.isAgg45
  z30 := Try.sizeOf45
  v30 := Try.zeroValue45
  t53 := Try.underlying52
  a53 := Try.isAgg52
  z53 := Try.sizeOf52
  v53 := Try.zeroValue52
  t55 := Try.underlying56
  a55 := Try.isAgg56
  z55 := Try.sizeOf56
  v55 := Try.zeroValue56
  info5 := by kernel_rfl }
open Go.RowKit Go.Lib in
theorem Try.filepath_Dir (s : ByteArray) (w : World) (hbig : s.size ≤ 281474976710656) :
    Calls Try.prog 35 #[.string s] w fun e w' => e = .returned (.string ⟨(Pa.dir s.data.toList).toArray⟩) ∧ Below w.heap.size w w' := Any.filepath_Dir Try.laysPah34 s w hbig
open Go.RowKit Go.Lib in
theorem Try.filepath_Clean_rules (s : ByteArray) (w : World) (hbig : s.size ≤ 281474976710656) :
    Calls Try.prog 34 #[.string s] w fun e w' => e = .returned (.string ⟨(Pa.cleanEls s.data.toList).toArray⟩) ∧ Below w.heap.size w w' := Any.filepath_Clean_rules Try.laysPah37 s w hbig
open Go.RowKit Go.Lib in
theorem Try.filepath_Dir_rules (s : ByteArray) (w : World) (hbig : s.size ≤ 281474976710656) :
    Calls Try.prog 35 #[.string s] w fun e w' => e = .returned (.string ⟨(Pa.cleanEls (Pa.split s.data.toList).1).toArray⟩) ∧ Below w.heap.size w w' := Any.filepath_Dir_rules Try.laysPah34 s w hbig
def Try.laysPah55_ren : Go.Shelf.Ren := ⟨fun | 55 => 45 | 65 => 53 | 37 => 34 | 67 => 61 | 68 => 62 | 69 => 63 | 54 => 46 | 71 => 65 | 72 => 66 | 59 => 52 | 56 => 54 | 60 => 55 | 61 => 56 | 62 => 57 | 63 => 58 | 64 => 59 | 74 => 68 | 75 => 69 | 66 => 64 | 70 => 67 | 73 => 70 | n => n, fun | 26 => 24 | 9 => 9 | 3 => 3 | 0 => 0 | 4 => 4 | 20 => 20 | 60 => 60 | 38 => 62 | 58 => 58 | 30 => 45 | 35 => 37 | 63 => 65 | 5 => 5 | 53 => 52 | 55 => 56 | 64 => 66 | 45 => 57 | n => n, fun | n => n⟩
theorem Try.laysPah55 : Go.Proofs.Lays.ph55 Try.prog Try.laysPah55_ren := {
  mixed := by kernel_rfl
  f37 := Try.func34.trans (congrArg some (by kernel_rfl))
  f54 := Try.func46.trans (congrArg some (by kernel_rfl))
  f55 := Try.func45.trans (congrArg some (by kernel_rfl))
  f56 := Try.func54.trans (congrArg some (by kernel_rfl))
  f59 := Try.func52.trans (congrArg some (by kernel_rfl))
  f60 := Try.func55.trans (congrArg some (by kernel_rfl))
  f61 := Try.func56.trans (congrArg some (by kernel_rfl))
  f62 := Try.func57.trans (congrArg some (by kernel_rfl))
  f63 := Try.func58.trans (congrArg some (by kernel_rfl))
  f64 := Try.func59.trans (congrArg some (by kernel_rfl))
  f65 := Try.func53.trans (congrArg some (by kernel_rfl))
  f66 := Try.func64.trans (congrArg some (by kernel_rfl))
  f67 := Try.func61.trans (congrArg some (by kernel_rfl))
  f68 := Try.func62.trans (congrArg some (by kernel_rfl))
  f69 := Try.func63.trans (congrArg some (by kernel_rfl))
  f70 := Try.func67.trans (congrArg some (by kernel_rfl))
  f71 := Try.func65.trans (congrArg some (by kernel_rfl))
  f72 := Try.func66.trans (congrArg some (by kernel_rfl))
  f73 := Try.func70.trans (congrArg some (by kernel_rfl))
  f74 := Try.func68.trans (congrArg some (by kernel_rfl))
  f75 := Try.func69.trans (congrArg some (by kernel_rfl))
  t0 := Try.underlying0
  a0 := Try.isAgg0
  z0 := Try.sizeOf0
  v0 := Try.zeroValue0
  t3 := Try.underlying3
  a3 := Try.isAgg3
  z3 := Try.sizeOf3
  v3 := Try.zeroValue3
  t4 := Try.underlying4
  a4 := Try.isAgg4
  z4 := Try.sizeOf4
  v4 := Try.zeroValue4
  t5 := Try.underlying5
  a5 := Try.isAgg5
  z5 := Try.sizeOf5
  v5 := Try.zeroValue5
  t9 := Try.underlying9
  a9 := Try.isAgg9
  z9 := Try.sizeOf9
  v9 := Try.zeroValue9
  t20 := Try.underlying20
  a20 := Try.isAgg20
  z20 := Try.sizeOf20
  v20 := Try.zeroValue20
  t26 := Try.underlying24
  a26 := Try.isAgg24
  z26 := Try.sizeOf24
  v26 := Try.zeroValue24
  t30 := Try.underlying45
  a30 := Try.isAgg45
  z30 := Try.sizeOf45
  v30 := Try.zeroValue45
  t35 := Try.underlying37
  a35 := Try.isAgg37
  z35 := Try.sizeOf37
  v35 := Try.zeroValue37
  t38 := Try.underlying62
  a38 := Try.isAgg62
  z38 := Try.sizeOf62
  v38 := Try.zeroValue62
  t45 := Try.underlying57
  a45 := Try.isAgg57
  z45 := Try.sizeOf57
  v45 := Try.zeroValue57
  t53 := Try.underlying52
  a53 := Try.isAgg52
  z53 := Try.sizeOf52
  v53 := Try.zeroValue52
  t55 := Try.underlying56
  a55 := Try.isAgg56
  z55 := Try.sizeOf56
  v55 := Try.zeroValue56
  t58 := Try.underlying58
  a58 := Try.isAgg58
  z58 := Try.sizeOf58
  v58 := Try.zeroValue58
  t60 := Try.underlying60
  a60 := Try.isAgg60
  z60 := Try.sizeOf60
  v60 := Try.zeroValue60
  t63 := Try.underlying65
  a63 := Try.isAgg65
  z63 := Try.sizeOf65
  v63 := Try.zeroValue65
  t64 := Try.underlying66
  a64 := Try.isAgg66
  z64 := Try.sizeOf66
  v64 := Try.zeroValue66
  sizeBuilder := by kernel_rfl
  liesBuilder := by kernel_rfl
  info5 := by kernel_rfl
  cellsByte := by kernel_rfl
  sizeByte := by kernel_rfl
  neB5 := by kernel_rfl }
open Go.RowKit Go.Lib in
theorem Try.filepath_join (bk o c : Nat) (xs : List ByteArray) (w : World) (hcells : ∀ (j : Nat) x, xs[j]? = some x → w.cell? ⟨bk, o + j, none⟩ = some (.string x)) (hbk : bk < w.heap.size) (hcap : xs.length ≤ c) (hlen : Lib.lens (xs.map (·.data.toList)) + xs.length ≤ 140737488355328) :
    Calls Try.prog 45 #[.slice (some ⟨bk, o, none⟩) xs.length c] w fun e w' => e = .returned (.string ⟨(Pa.fjoin (xs.map (·.data.toList))).toArray⟩) ∧ Below w.heap.size w w' := Any.filepath_join Try.laysPah55 bk o c xs w hcells hbk hcap hlen
def Try.laysPa55_ren : Go.Shelf.Ren := ⟨fun | 55 => 45 | 65 => 53 | 37 => 34 | 67 => 61 | 68 => 62 | 69 => 63 | 54 => 46 | 71 => 65 | 72 => 66 | 59 => 52 | 56 => 54 | 60 => 55 | 61 => 56 | 62 => 57 | 63 => 58 | 64 => 59 | 74 => 68 | 75 => 69 | 66 => 64 | 70 => 67 | 73 => 70 | n => n, fun | 26 => 24 | 9 => 9 | 3 => 3 | 0 => 0 | 4 => 4 | 20 => 20 | 60 => 60 | 38 => 62 | 58 => 58 | 30 => 45 | 35 => 37 | 63 => 65 | 5 => 5 | 53 => 52 | 55 => 56 | 64 => 66 | 45 => 57 | n => n, fun | n => n⟩
theorem Try.laysPa55 : Go.Proofs.Lays.p55 Try.prog Try.laysPa55_ren := {
  mixed := by kernel_rfl
  f37 := Try.func34.trans (congrArg some (by kernel_rfl))
  f54 := Try.func46.trans (congrArg some (by kernel_rfl))
  f55 := Try.func45.trans (congrArg some (by kernel_rfl))
  f56 := Try.func54.trans (congrArg some (by kernel_rfl))
  f59 := Try.func52.trans (congrArg some (by kernel_rfl))
  f60 := Try.func55.trans (congrArg some (by kernel_rfl))
  f61 := Try.func56.trans (congrArg some (by kernel_rfl))
  f62 := Try.func57.trans (congrArg some (by kernel_rfl))
  f63 := Try.func58.trans (congrArg some (by kernel_rfl))
  f64 := Try.func59.trans (congrArg some (by kernel_rfl))
  f65 := Try.func53.trans (congrArg some (by kernel_rfl))
  f66 := Try.func64.trans (congrArg some (by kernel_rfl))
  f67 := Try.func61.trans (congrArg some (by kernel_rfl))
  f68 := Try.func62.trans (congrArg some (by kernel_rfl))
  f69 := Try.func63.trans (congrArg some (by kernel_rfl))
  f70 := Try.func67.trans (congrArg some (by kernel_rfl))
  f71 := Try.func65.trans (congrArg some (by kernel_rfl))
  f72 := Try.func66.trans (congrArg some (by kernel_rfl))
  f73 := Try.func70.trans (congrArg some (by kernel_rfl))
  f74 := Try.func68.trans (congrArg some (by kernel_rfl))
  f75 := Try.func69.trans (congrArg some (by kernel_rfl))
  t0 := Try.underlying0
  a0 := Try.isAgg0
  z0 := Try.sizeOf0
  v0 := Try.zeroValue0
  t3 := Try.underlying3
  a3 := Try.isAgg3
  z3 := Try.sizeOf3
  v3 := Try.zeroValue3
  t4 := Try.underlying4
  a4 := Try.isAgg4
  z4 := Try.sizeOf4
  v4 := Try.zeroValue4
  t5 := Try.underlying5
  a5 := Try.isAgg5
  z5 := Try.sizeOf5
  v5 := Try.zeroValue5
  t9 := Try.underlying9
  a9 := Try.isAgg9
  z9 := Try.sizeOf9
  v9 := Try.zeroValue9
  t20 := Try.underlying20
  a20 := Try.isAgg20
  z20 := Try.sizeOf20
  v20 := Try.zeroValue20
  t26 := Try.underlying24
  a26 := Try.isAgg24
  z26 := Try.sizeOf24
  v26 := Try.zeroValue24
  t30 := Try.underlying45
  a30 := Try.isAgg45
  z30 := Try.sizeOf45
  v30 := Try.zeroValue45
  t35 := Try.underlying37
  a35 := Try.isAgg37
  z35 := Try.sizeOf37
  v35 := Try.zeroValue37
  t38 := Try.underlying62
  a38 := Try.isAgg62
  z38 := Try.sizeOf62
  v38 := Try.zeroValue62
  t45 := Try.underlying57
  a45 := Try.isAgg57
  z45 := Try.sizeOf57
  v45 := Try.zeroValue57
  t53 := Try.underlying52
  a53 := Try.isAgg52
  z53 := Try.sizeOf52
  v53 := Try.zeroValue52
  t55 := Try.underlying56
  a55 := Try.isAgg56
  z55 := Try.sizeOf56
  v55 := Try.zeroValue56
  t58 := Try.underlying58
  a58 := Try.isAgg58
  z58 := Try.sizeOf58
  v58 := Try.zeroValue58
  t60 := Try.underlying60
  a60 := Try.isAgg60
  z60 := Try.sizeOf60
  v60 := Try.zeroValue60
  t63 := Try.underlying65
  a63 := Try.isAgg65
  z63 := Try.sizeOf65
  v63 := Try.zeroValue65
  t64 := Try.underlying66
  a64 := Try.isAgg66
  z64 := Try.sizeOf66
  v64 := Try.zeroValue66 }
open Go.RowKit Go.Lib in
theorem Try.filepath_join_nil (w : World) :
    Calls Try.prog 45 #[.slice none 0 0] w fun e w' => e = .returned (.string ⟨#[]⟩) ∧ w' = w := Any.filepath_join_nil Try.laysPa55 w
def Try.laysPah38_ren : Go.Shelf.Ren := ⟨fun | 38 => 33 | 55 => 45 | 65 => 53 | 37 => 34 | 67 => 61 | 68 => 62 | 69 => 63 | 54 => 46 | 71 => 65 | 72 => 66 | 59 => 52 | 56 => 54 | 60 => 55 | 61 => 56 | 62 => 57 | 63 => 58 | 64 => 59 | 74 => 68 | 75 => 69 | 66 => 64 | 70 => 67 | 73 => 70 | n => n, fun | 26 => 24 | 9 => 9 | 3 => 3 | 0 => 0 | 4 => 4 | 20 => 20 | 60 => 60 | 38 => 62 | 58 => 58 | 30 => 45 | 35 => 37 | 63 => 65 | 5 => 5 | 53 => 52 | 55 => 56 | 64 => 66 | 45 => 57 | n => n, fun | n => n⟩
theorem Try.laysPah38 : Go.Proofs.Lays.ph38 Try.prog Try.laysPah38_ren := {
  mixed := by kernel_rfl
  f37 := Try.func34.trans (congrArg some (by kernel_rfl))
  f38 := Try.func33.trans (congrArg some (by kernel_rfl))
  f54 := Try.func46.trans (congrArg some (by kernel_rfl))
  f55 := Try.func45.trans (congrArg some (by kernel_rfl))
  f56 := Try.func54.trans (congrArg some (by kernel_rfl))
  f59 := Try.func52.trans (congrArg some (by kernel_rfl))
  f60 := Try.func55.trans (congrArg some (by kernel_rfl))
  f61 := Try.func56.trans (congrArg some (by kernel_rfl))
  f62 := Try.func57.trans (congrArg some (by kernel_rfl))
  f63 := Try.func58.trans (congrArg some (by kernel_rfl))
  f64 := Try.func59.trans (congrArg some (by kernel_rfl))
  f65 := Try.func53.trans (congrArg some (by kernel_rfl))
  f66 := Try.func64.trans (congrArg some (by kernel_rfl))
  f67 := Try.func61.trans (congrArg some (by kernel_rfl))
  f68 := Try.func62.trans (congrArg some (by kernel_rfl))
  f69 := Try.func63.trans (congrArg some (by kernel_rfl))
  f70 := Try.func67.trans (congrArg some (by kernel_rfl))
  f71 := Try.func65.trans (congrArg some (by kernel_rfl))
  f72 := Try.func66.trans (congrArg some (by kernel_rfl))
  f73 := Try.func70.trans (congrArg some (by kernel_rfl))
  f74 := Try.func68.trans (congrArg some (by kernel_rfl))
  f75 := Try.func69.trans (congrArg some (by kernel_rfl))
  t0 := Try.underlying0
  a0 := Try.isAgg0
  z0 := Try.sizeOf0
  v0 := Try.zeroValue0
  t3 := Try.underlying3
  a3 := Try.isAgg3
  z3 := Try.sizeOf3
  v3 := Try.zeroValue3
  t4 := Try.underlying4
  a4 := Try.isAgg4
  z4 := Try.sizeOf4
  v4 := Try.zeroValue4
  t5 := Try.underlying5
  a5 := Try.isAgg5
  z5 := Try.sizeOf5
  v5 := Try.zeroValue5
  t9 := Try.underlying9
  a9 := Try.isAgg9
  z9 := Try.sizeOf9
  v9 := Try.zeroValue9
  t20 := Try.underlying20
  a20 := Try.isAgg20
  z20 := Try.sizeOf20
  v20 := Try.zeroValue20
  t26 := Try.underlying24
  a26 := Try.isAgg24
  z26 := Try.sizeOf24
  v26 := Try.zeroValue24
  t30 := Try.underlying45
  a30 := Try.isAgg45
  z30 := Try.sizeOf45
  v30 := Try.zeroValue45
  t35 := Try.underlying37
  a35 := Try.isAgg37
  z35 := Try.sizeOf37
  v35 := Try.zeroValue37
  t38 := Try.underlying62
  a38 := Try.isAgg62
  z38 := Try.sizeOf62
  v38 := Try.zeroValue62
  t45 := Try.underlying57
  a45 := Try.isAgg57
  z45 := Try.sizeOf57
  v45 := Try.zeroValue57
  t53 := Try.underlying52
  a53 := Try.isAgg52
  z53 := Try.sizeOf52
  v53 := Try.zeroValue52
  t55 := Try.underlying56
  a55 := Try.isAgg56
  z55 := Try.sizeOf56
  v55 := Try.zeroValue56
  t58 := Try.underlying58
  a58 := Try.isAgg58
  z58 := Try.sizeOf58
  v58 := Try.zeroValue58
  t60 := Try.underlying60
  a60 := Try.isAgg60
  z60 := Try.sizeOf60
  v60 := Try.zeroValue60
  t63 := Try.underlying65
  a63 := Try.isAgg65
  z63 := Try.sizeOf65
  v63 := Try.zeroValue65
  t64 := Try.underlying66
  a64 := Try.isAgg66
  z64 := Try.sizeOf66
  v64 := Try.zeroValue66
  sizeBuilder := by kernel_rfl
  liesBuilder := by kernel_rfl
  info5 := by kernel_rfl
  cellsByte := by kernel_rfl
  sizeByte := by kernel_rfl
  neB5 := by kernel_rfl }
open Go.RowKit Go.Lib in
theorem Try.filepath_Join (bk o c : Nat) (xs : List ByteArray) (w : World) (hcells : ∀ (j : Nat) x, xs[j]? = some x → w.cell? ⟨bk, o + j, none⟩ = some (.string x)) (hbk : bk < w.heap.size) (hcap : xs.length ≤ c) (hlen : Lib.lens (xs.map (·.data.toList)) + xs.length ≤ 140737488355328) :
    Calls Try.prog 33 #[.slice (some ⟨bk, o, none⟩) xs.length c] w fun e w' => e = .returned (.string ⟨(Pa.fjoin (xs.map (·.data.toList))).toArray⟩) ∧ Below w.heap.size w w' := Any.filepath_Join Try.laysPah38 bk o c xs w hcells hbk hcap hlen
def Try.laysPa38_ren : Go.Shelf.Ren := ⟨fun | 38 => 33 | 55 => 45 | 65 => 53 | 37 => 34 | 67 => 61 | 68 => 62 | 69 => 63 | 54 => 46 | 71 => 65 | 72 => 66 | 59 => 52 | 56 => 54 | 60 => 55 | 61 => 56 | 62 => 57 | 63 => 58 | 64 => 59 | 74 => 68 | 75 => 69 | 66 => 64 | 70 => 67 | 73 => 70 | n => n, fun | 26 => 24 | 9 => 9 | 3 => 3 | 0 => 0 | 4 => 4 | 20 => 20 | 60 => 60 | 38 => 62 | 58 => 58 | 30 => 45 | 35 => 37 | 63 => 65 | 5 => 5 | 53 => 52 | 55 => 56 | 64 => 66 | 45 => 57 | n => n, fun | n => n⟩
theorem Try.laysPa38 : Go.Proofs.Lays.p38 Try.prog Try.laysPa38_ren := {
  mixed := by kernel_rfl
  f37 := Try.func34.trans (congrArg some (by kernel_rfl))
  f38 := Try.func33.trans (congrArg some (by kernel_rfl))
  f54 := Try.func46.trans (congrArg some (by kernel_rfl))
  f55 := Try.func45.trans (congrArg some (by kernel_rfl))
  f56 := Try.func54.trans (congrArg some (by kernel_rfl))
  f59 := Try.func52.trans (congrArg some (by kernel_rfl))
  f60 := Try.func55.trans (congrArg some (by kernel_rfl))
  f61 := Try.func56.trans (congrArg some (by kernel_rfl))
  f62 := Try.func57.trans (congrArg some (by kernel_rfl))
  f63 := Try.func58.trans (congrArg some (by kernel_rfl))
  f64 := Try.func59.trans (congrArg some (by kernel_rfl))
  f65 := Try.func53.trans (congrArg some (by kernel_rfl))
  f66 := Try.func64.trans (congrArg some (by kernel_rfl))
  f67 := Try.func61.trans (congrArg some (by kernel_rfl))
  f68 := Try.func62.trans (congrArg some (by kernel_rfl))
  f69 := Try.func63.trans (congrArg some (by kernel_rfl))
  f70 := Try.func67.trans (congrArg some (by kernel_rfl))
  f71 := Try.func65.trans (congrArg some (by kernel_rfl))
  f72 := Try.func66.trans (congrArg some (by kernel_rfl))
  f73 := Try.func70.trans (congrArg some (by kernel_rfl))
  f74 := Try.func68.trans (congrArg some (by kernel_rfl))
  f75 := Try.func69.trans (congrArg some (by kernel_rfl))
  t0 := Try.underlying0
  a0 := Try.isAgg0
  z0 := Try.sizeOf0
  v0 := Try.zeroValue0
  t3 := Try.underlying3
  a3 := Try.isAgg3
  z3 := Try.sizeOf3
  v3 := Try.zeroValue3
  t4 := Try.underlying4
  a4 := Try.isAgg4
  z4 := Try.sizeOf4
  v4 := Try.zeroValue4
  t5 := Try.underlying5
  a5 := Try.isAgg5
  z5 := Try.sizeOf5
  v5 := Try.zeroValue5
  t9 := Try.underlying9
  a9 := Try.isAgg9
  z9 := Try.sizeOf9
  v9 := Try.zeroValue9
  t20 := Try.underlying20
  a20 := Try.isAgg20
  z20 := Try.sizeOf20
  v20 := Try.zeroValue20
  t26 := Try.underlying24
  a26 := Try.isAgg24
  z26 := Try.sizeOf24
  v26 := Try.zeroValue24
  t30 := Try.underlying45
  a30 := Try.isAgg45
  z30 := Try.sizeOf45
  v30 := Try.zeroValue45
  t35 := Try.underlying37
  a35 := Try.isAgg37
  z35 := Try.sizeOf37
  v35 := Try.zeroValue37
  t38 := Try.underlying62
  a38 := Try.isAgg62
  z38 := Try.sizeOf62
  v38 := Try.zeroValue62
  t45 := Try.underlying57
  a45 := Try.isAgg57
  z45 := Try.sizeOf57
  v45 := Try.zeroValue57
  t53 := Try.underlying52
  a53 := Try.isAgg52
  z53 := Try.sizeOf52
  v53 := Try.zeroValue52
  t55 := Try.underlying56
  a55 := Try.isAgg56
  z55 := Try.sizeOf56
  v55 := Try.zeroValue56
  t58 := Try.underlying58
  a58 := Try.isAgg58
  z58 := Try.sizeOf58
  v58 := Try.zeroValue58
  t60 := Try.underlying60
  a60 := Try.isAgg60
  z60 := Try.sizeOf60
  v60 := Try.zeroValue60
  t63 := Try.underlying65
  a63 := Try.isAgg65
  z63 := Try.sizeOf65
  v63 := Try.zeroValue65
  t64 := Try.underlying66
  a64 := Try.isAgg66
  z64 := Try.sizeOf66
  v64 := Try.zeroValue66 }
open Go.RowKit Go.Lib in
theorem Try.filepath_Join_nil (w : World) :
    Calls Try.prog 33 #[.slice none 0 0] w fun e w' => e = .returned (.string ⟨#[]⟩) ∧ w' = w := Any.filepath_Join_nil Try.laysPa38 w
open Go.RowKit Go.Lib in
theorem Try.filepath_Join_rules (bk o c : Nat) (xs : List ByteArray) (w : World) (hcells : ∀ (j : Nat) x, xs[j]? = some x → w.cell? ⟨bk, o + j, none⟩ = some (.string x)) (hbk : bk < w.heap.size) (hcap : xs.length ≤ c) (hlen : Lib.lens (xs.map (·.data.toList)) + xs.length ≤ 140737488355328) :
    Calls Try.prog 33 #[.slice (some ⟨bk, o, none⟩) xs.length c] w fun e w' => e = .returned (.string ⟨(Pa.join (xs.map (·.data.toList))).toArray⟩) ∧ Below w.heap.size w w' := Any.filepath_Join_rules Try.laysPah38 bk o c xs w hcells hbk hcap hlen
end Go.Proofs
