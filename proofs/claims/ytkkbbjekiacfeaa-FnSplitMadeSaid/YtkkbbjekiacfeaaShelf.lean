/-
  Contracts of library functions at this translation, laid by the kit's tools lay-shelf and lay-plain; their remarks are struck.
-/
import Derived.Shelf.Strings.Search1
import Derived.Shelf.Strings.Prefix
import Derived.Ground.PaProg
import Derived.Shelf.Path.FileSmall
import Derived.Test.YtkkbbjekiacfeaaProg
namespace Go.Proofs
open Go.Shelf
def Try.lays217_ren : Go.Shelf.Ren := ⟨fun | 217 => 45 | 266 => 46 | n => n, fun | 9 => 9 | 5 => 5 | 3 => 3 | n => n, fun | n => n⟩
theorem Try.lays217 : Go.Proofs.Lays.n217 Try.prog Try.lays217_ren := {
  mixed := by kernel_rfl
  f217 := Try.func45.trans (congrArg some (by kernel_rfl))
  f266 := Try.func46.trans (congrArg some (by kernel_rfl))
  t3 := Try.underlying3
  a3 := Try.isAgg3
  z3 := Try.sizeOf3
  v3 := Try.zeroValue3
  t5 := Try.underlying5
  a5 := Try.isAgg5
  z5 := Try.sizeOf5
  v5 := Try.zeroValue5
  t9 := Try.underlying9
  a9 := Try.isAgg9
  z9 := Try.sizeOf9
  v9 := Try.zeroValue9 }
open Go.RowKit Go.Lib in
theorem Try.stringslite_IndexByte (s : ByteArray) (c : Int) (w : World) :
    Calls Try.prog 45 #[.string s, .int .u8 c] w fun e w' => e = .returned (.int .i64 (Lib.indexByte s.data.toList c.toNat.toUInt8)) ∧ w' = w := Any.stringslite_IndexByte Try.lays217 s c w
def Try.lays206_ren : Go.Shelf.Ren := ⟨fun | 206 => 41 | n => n, fun | 9 => 9 | 4 => 4 | 3 => 3 | n => n, fun | n => n⟩
theorem Try.lays206 : Go.Proofs.Lays.n206 Try.prog Try.lays206_ren := {
  mixed := by kernel_rfl
  f206 := Try.func41.trans (congrArg some (by kernel_rfl))
  t3 := Try.underlying3
  a3 := Try.isAgg3
  z3 := Try.sizeOf3
  v3 := Try.zeroValue3
  t4 := Try.underlying4
  a4 := Try.isAgg4
  z4 := Try.sizeOf4
  v4 := Try.zeroValue4
  t9 := Try.underlying9
  a9 := Try.isAgg9
  z9 := Try.sizeOf9
  v9 := Try.zeroValue9 }
open Go.RowKit Go.Lib in
theorem Try.stringslite_HasPrefix (s p : ByteArray) (w : World) :
    Calls Try.prog 41 #[.string s, .string p] w fun e w' => e = .returned (.bool (Lib.hasPrefix s.data.toList p.data.toList)) ∧ w' = w := Any.stringslite_HasPrefix Try.lays206 s p w
def Try.laysPa56_ren : Go.Shelf.Ren := ⟨fun | 56 => 42 | n => n, fun | 5 => 5 | 4 => 4 | n => n, fun | n => n⟩
theorem Try.laysPa56 : Go.Proofs.Lays.p56 Try.prog Try.laysPa56_ren := {
  mixed := by kernel_rfl
  f56 := Try.func42.trans (congrArg some (by kernel_rfl))
  t4 := Try.underlying4
  a4 := Try.isAgg4
  z4 := Try.sizeOf4
  v4 := Try.zeroValue4
  t5 := Try.underlying5
  a5 := Try.isAgg5
  z5 := Try.sizeOf5
  v5 := Try.zeroValue5 }
open Go.RowKit Go.Lib in
theorem Try.filepathlite_IsPathSeparator (c : Int) (w : World) :
    Calls Try.prog 42 #[.int .u8 c] w fun e w' => e = .returned (.bool (c == 47)) ∧ w' = w := Any.filepathlite_IsPathSeparator Try.laysPa56 c w
def Try.laysPa59_ren : Go.Shelf.Ren := ⟨fun | 59 => 44 | n => n, fun | 9 => 9 | 3 => 3 | n => n, fun | n => n⟩
theorem Try.laysPa59 : Go.Proofs.Lays.p59 Try.prog Try.laysPa59_ren := {
  mixed := by kernel_rfl
  f59 := Try.func44.trans (congrArg some (by kernel_rfl))
  t3 := Try.underlying3
  a3 := Try.isAgg3
  z3 := Try.sizeOf3
  v3 := Try.zeroValue3
  t9 := Try.underlying9
  a9 := Try.isAgg9
  z9 := Try.sizeOf9
  v9 := Try.zeroValue9 }
open Go.RowKit Go.Lib in
theorem Try.filepathlite_volumeNameLen (s : ByteArray) (w : World) :
    Calls Try.prog 44 #[.string s] w fun e w' => e = .returned (.int .i64 0) ∧ w' = w := Any.filepathlite_volumeNameLen Try.laysPa59 s w
def Try.laysPa60_ren : Go.Shelf.Ren := ⟨fun | 60 => 36 | 66 => 43 | 70 => 45 | 73 => 46 | n => n, fun | 9 => 9 | 5 => 5 | 3 => 3 | 4 => 4 | 30 => 31 | 0 => 0 | n => n, fun | n => n⟩
theorem Try.laysPa60 : Go.Proofs.Lays.p60 Try.prog Try.laysPa60_ren := {
  mixed := by kernel_rfl
  f60 := Try.func36.trans (congrArg some (by kernel_rfl))
  f66 := Try.func43.trans (congrArg some (by kernel_rfl))
  f70 := Try.func45.trans (congrArg some (by kernel_rfl))
  f73 := Try.func46.trans (congrArg some (by kernel_rfl))
  t0 := Try.underlying0
  a0 := Try.isAgg0
  z0 := Try.sizeOf0
  v0 := Try.zeroValue0
  t3 := Try.underlying3
  a3 := Try.isAgg3
  z3 := Try.sizeOf3
  v3 := Try.zeroValue3
  t4 := Try.underlying4
  a4 := Try.isAgg4
  z4 := Try.sizeOf4
  v4 := Try.zeroValue4
  t5 := Try.underlying5
  a5 := Try.isAgg5
  z5 := Try.sizeOf5
  v5 := Try.zeroValue5
  t9 := Try.underlying9
  a9 := Try.isAgg9
  z9 := Try.sizeOf9
  v9 := Try.zeroValue9
  t30 := Try.underlying31
  a30 := Try.isAgg31
  z30 := Try.sizeOf31
  v30 := Try.zeroValue31 }
open Go.RowKit Go.Lib in
theorem Try.filepathlite_FromSlash (s : ByteArray) (w : World) :
    Calls Try.prog 36 #[.string s] w fun e w' => e = .returned (.string s) ∧ w' = w := Any.filepathlite_FromSlash Try.laysPa60 s w
def Try.laysPa57_ren : Go.Shelf.Ren := ⟨fun | 57 => 38 | 59 => 44 | 60 => 36 | 66 => 43 | 70 => 45 | 73 => 46 | n => n, fun | 9 => 9 | 3 => 3 | 5 => 5 | 4 => 4 | 30 => 31 | 0 => 0 | n => n, fun | n => n⟩
theorem Try.laysPa57 : Go.Proofs.Lays.p57 Try.prog Try.laysPa57_ren := {
  mixed := by kernel_rfl
  f57 := Try.func38.trans (congrArg some (by kernel_rfl))
  f59 := Try.func44.trans (congrArg some (by kernel_rfl))
  f60 := Try.func36.trans (congrArg some (by kernel_rfl))
  f66 := Try.func43.trans (congrArg some (by kernel_rfl))
  f70 := Try.func45.trans (congrArg some (by kernel_rfl))
  f73 := Try.func46.trans (congrArg some (by kernel_rfl))
  t0 := Try.underlying0
  a0 := Try.isAgg0
  z0 := Try.sizeOf0
  v0 := Try.zeroValue0
  t3 := Try.underlying3
  a3 := Try.isAgg3
  z3 := Try.sizeOf3
  v3 := Try.zeroValue3
  t4 := Try.underlying4
  a4 := Try.isAgg4
  z4 := Try.sizeOf4
  v4 := Try.zeroValue4
  t5 := Try.underlying5
  a5 := Try.isAgg5
  z5 := Try.sizeOf5
  v5 := Try.zeroValue5
  t9 := Try.underlying9
  a9 := Try.isAgg9
  z9 := Try.sizeOf9
  v9 := Try.zeroValue9
  t30 := Try.underlying31
  a30 := Try.isAgg31
  z30 := Try.sizeOf31
  v30 := Try.zeroValue31 }
open Go.RowKit Go.Lib in
theorem Try.filepathlite_VolumeName (s : ByteArray) (w : World) :
    Calls Try.prog 38 #[.string s] w fun e w' => e = .returned (.string ⟨#[]⟩) ∧ w' = w := Any.filepathlite_VolumeName Try.laysPa57 s w
def Try.laysPa50_ren : Go.Shelf.Ren := ⟨fun | 50 => 35 | 56 => 42 | n => n, fun | 9 => 9 | 3 => 3 | 4 => 4 | 5 => 5 | n => n, fun | n => n⟩
theorem Try.laysPa50 : Go.Proofs.Lays.p50 Try.prog Try.laysPa50_ren := {
  mixed := by kernel_rfl
  f50 := Try.func35.trans (congrArg some (by kernel_rfl))
  f56 := Try.func42.trans (congrArg some (by kernel_rfl))
  t3 := Try.underlying3
  a3 := Try.isAgg3
  z3 := Try.sizeOf3
  v3 := Try.zeroValue3
  t4 := Try.underlying4
  a4 := Try.isAgg4
  z4 := Try.sizeOf4
  v4 := Try.zeroValue4
  t5 := Try.underlying5
  a5 := Try.isAgg5
  z5 := Try.sizeOf5
  v5 := Try.zeroValue5
  t9 := Try.underlying9
  a9 := Try.isAgg9
  z9 := Try.sizeOf9
  v9 := Try.zeroValue9 }
open Go.RowKit Go.Lib in
theorem Try.filepathlite_Ext (s : ByteArray) (w : World) (hs : s.size ≤ 9223372036854775807) :
    Calls Try.prog 35 #[.string s] w fun e w' => e = .returned (.string ⟨(Pa.ext s.data.toList).toArray⟩) ∧ w' = w := Any.filepathlite_Ext Try.laysPa50 s w hs
def Try.laysPa52_ren : Go.Shelf.Ren := ⟨fun | 52 => 34 | 58 => 41 | n => n, fun | 9 => 9 | 4 => 4 | 3 => 3 | n => n, fun | n => n⟩
theorem Try.laysPa52 : Go.Proofs.Lays.p52 Try.prog Try.laysPa52_ren := {
  mixed := by kernel_rfl
  f52 := Try.func34.trans (congrArg some (by kernel_rfl))
  f58 := Try.func41.trans (congrArg some (by kernel_rfl))
  t3 := Try.underlying3
  a3 := Try.isAgg3
  z3 := Try.sizeOf3
  v3 := Try.zeroValue3
  t4 := Try.underlying4
  a4 := Try.isAgg4
  z4 := Try.sizeOf4
  v4 := Try.zeroValue4
  t9 := Try.underlying9
  a9 := Try.isAgg9
  z9 := Try.sizeOf9
  v9 := Try.zeroValue9 }
open Go.RowKit Go.Lib in
theorem Try.filepathlite_IsAbs (s : ByteArray) (w : World) :
    Calls Try.prog 34 #[.string s] w fun e w' => e = .returned (.bool (Pa.isAbs s.data.toList)) ∧ w' = w := Any.filepathlite_IsAbs Try.laysPa52 s w
def Try.laysPa33_ren : Go.Shelf.Ren := ⟨fun | 33 => 28 | 50 => 35 | 56 => 42 | n => n, fun | 9 => 9 | 3 => 3 | 4 => 4 | 5 => 5 | n => n, fun | n => n⟩
theorem Try.laysPa33 : Go.Proofs.Lays.p33 Try.prog Try.laysPa33_ren := {
  mixed := by kernel_rfl
  f33 := Try.func28.trans (congrArg some (by kernel_rfl))
  f50 := Try.func35.trans (congrArg some (by kernel_rfl))
  f56 := Try.func42.trans (congrArg some (by kernel_rfl))
  t3 := Try.underlying3
  a3 := Try.isAgg3
  z3 := Try.sizeOf3
  v3 := Try.zeroValue3
  t4 := Try.underlying4
  a4 := Try.isAgg4
  z4 := Try.sizeOf4
  v4 := Try.zeroValue4
  t5 := Try.underlying5
  a5 := Try.isAgg5
  z5 := Try.sizeOf5
  v5 := Try.zeroValue5
  t9 := Try.underlying9
  a9 := Try.isAgg9
  z9 := Try.sizeOf9
  v9 := Try.zeroValue9 }
open Go.RowKit Go.Lib in
theorem Try.filepath_Ext (s : ByteArray) (w : World) (hs : s.size ≤ 9223372036854775807) :
    Calls Try.prog 28 #[.string s] w fun e w' => e = .returned (.string ⟨(Pa.ext s.data.toList).toArray⟩) ∧ w' = w := Any.filepath_Ext Try.laysPa33 s w hs
def Try.laysPa35_ren : Go.Shelf.Ren := ⟨fun | 35 => 27 | 52 => 34 | 58 => 41 | n => n, fun | 9 => 9 | 4 => 4 | 3 => 3 | n => n, fun | n => n⟩
theorem Try.laysPa35 : Go.Proofs.Lays.p35 Try.prog Try.laysPa35_ren := {
  mixed := by kernel_rfl
  f35 := Try.func27.trans (congrArg some (by kernel_rfl))
  f52 := Try.func34.trans (congrArg some (by kernel_rfl))
  f58 := Try.func41.trans (congrArg some (by kernel_rfl))
  t3 := Try.underlying3
  a3 := Try.isAgg3
  z3 := Try.sizeOf3
  v3 := Try.zeroValue3
  t4 := Try.underlying4
  a4 := Try.isAgg4
  z4 := Try.sizeOf4
  v4 := Try.zeroValue4
  t9 := Try.underlying9
  a9 := Try.isAgg9
  z9 := Try.sizeOf9
  v9 := Try.zeroValue9 }
open Go.RowKit Go.Lib in
theorem Try.filepath_IsAbs (s : ByteArray) (w : World) :
    Calls Try.prog 27 #[.string s] w fun e w' => e = .returned (.bool (Pa.isAbs s.data.toList)) ∧ w' = w := Any.filepath_IsAbs Try.laysPa35 s w
def Try.laysPa53_ren : Go.Shelf.Ren := ⟨fun | 53 => 39 | 57 => 38 | 56 => 42 | 59 => 44 | 60 => 36 | 66 => 43 | 70 => 45 | 73 => 46 | n => n, fun | 9 => 9 | 3 => 3 | 4 => 4 | 5 => 5 | 30 => 31 | 0 => 0 | n => n, fun | n => n⟩
theorem Try.laysPa53 : Go.Proofs.Lays.p53 Try.prog Try.laysPa53_ren := {
  mixed := by kernel_rfl
  f53 := Try.func39.trans (congrArg some (by kernel_rfl))
  f56 := Try.func42.trans (congrArg some (by kernel_rfl))
  f57 := Try.func38.trans (congrArg some (by kernel_rfl))
  f59 := Try.func44.trans (congrArg some (by kernel_rfl))
  f60 := Try.func36.trans (congrArg some (by kernel_rfl))
  f66 := Try.func43.trans (congrArg some (by kernel_rfl))
  f70 := Try.func45.trans (congrArg some (by kernel_rfl))
  f73 := Try.func46.trans (congrArg some (by kernel_rfl))
  t0 := Try.underlying0
  a0 := Try.isAgg0
  z0 := Try.sizeOf0
  v0 := Try.zeroValue0
  t3 := Try.underlying3
  a3 := Try.isAgg3
  z3 := Try.sizeOf3
  v3 := Try.zeroValue3
  t4 := Try.underlying4
  a4 := Try.isAgg4
  z4 := Try.sizeOf4
  v4 := Try.zeroValue4
  t5 := Try.underlying5
  a5 := Try.isAgg5
  z5 := Try.sizeOf5
  v5 := Try.zeroValue5
  t9 := Try.underlying9
  a9 := Try.isAgg9
  z9 := Try.sizeOf9
  v9 := Try.zeroValue9
  t30 := Try.underlying31
  a30 := Try.isAgg31
  z30 := Try.sizeOf31
  v30 := Try.zeroValue31 }
open Go.RowKit Go.Lib in
theorem Try.filepathlite_Split (s : ByteArray) (w : World) (hs : s.size ≤ 9223372036854775807) :
    Calls Try.prog 39 #[.string s] w fun e w' => e = .returned (.tuple #[.string ⟨(Pa.split s.data.toList).1.toArray⟩, .string ⟨(Pa.split s.data.toList).2.toArray⟩]) ∧ ∃ n, w' = w.drewN n := Any.filepathlite_Split Try.laysPa53 s w hs
def Try.laysPa49_ren : Go.Shelf.Ren := ⟨fun | 49 => 40 | 56 => 42 | 57 => 38 | 59 => 44 | 60 => 36 | 66 => 43 | 70 => 45 | 73 => 46 | n => n, fun | 9 => 9 | 4 => 4 | 3 => 3 | 5 => 5 | 30 => 31 | 0 => 0 | n => n, fun | n => n⟩
theorem Try.laysPa49 : Go.Proofs.Lays.p49 Try.prog Try.laysPa49_ren := {
  mixed := by kernel_rfl
  f49 := Try.func40.trans (congrArg some (by kernel_rfl))
  f56 := Try.func42.trans (congrArg some (by kernel_rfl))
  f57 := Try.func38.trans (congrArg some (by kernel_rfl))
  f59 := Try.func44.trans (congrArg some (by kernel_rfl))
  f60 := Try.func36.trans (congrArg some (by kernel_rfl))
  f66 := Try.func43.trans (congrArg some (by kernel_rfl))
  f70 := Try.func45.trans (congrArg some (by kernel_rfl))
  f73 := Try.func46.trans (congrArg some (by kernel_rfl))
  t0 := Try.underlying0
  a0 := Try.isAgg0
  z0 := Try.sizeOf0
  v0 := Try.zeroValue0
  t3 := Try.underlying3
  a3 := Try.isAgg3
  z3 := Try.sizeOf3
  v3 := Try.zeroValue3
  t4 := Try.underlying4
  a4 := Try.isAgg4
  z4 := Try.sizeOf4
  v4 := Try.zeroValue4
  t5 := Try.underlying5
  a5 := Try.isAgg5
  z5 := Try.sizeOf5
  v5 := Try.zeroValue5
  t9 := Try.underlying9
  a9 := Try.isAgg9
  z9 := Try.sizeOf9
  v9 := Try.zeroValue9
  t30 := Try.underlying31
  a30 := Try.isAgg31
  z30 := Try.sizeOf31
  v30 := Try.zeroValue31 }
open Go.RowKit Go.Lib in
theorem Try.filepathlite_Base (s : ByteArray) (w : World) (hs : s.size ≤ 9223372036854775807) :
    Calls Try.prog 40 #[.string s] w fun e w' => e = .returned (.string ⟨(Pa.base s.data.toList).toArray⟩) ∧ w' = w := Any.filepathlite_Base Try.laysPa49 s w hs
def Try.laysPa32_ren : Go.Shelf.Ren := ⟨fun | 32 => 33 | 49 => 40 | 56 => 42 | 57 => 38 | 59 => 44 | 60 => 36 | 66 => 43 | 70 => 45 | 73 => 46 | n => n, fun | 9 => 9 | 4 => 4 | 3 => 3 | 5 => 5 | 30 => 31 | 0 => 0 | n => n, fun | n => n⟩
theorem Try.laysPa32 : Go.Proofs.Lays.p32 Try.prog Try.laysPa32_ren := {
  mixed := by kernel_rfl
  f32 := Try.func33.trans (congrArg some (by kernel_rfl))
  f49 := Try.func40.trans (congrArg some (by kernel_rfl))
  f56 := Try.func42.trans (congrArg some (by kernel_rfl))
  f57 := Try.func38.trans (congrArg some (by kernel_rfl))
  f59 := Try.func44.trans (congrArg some (by kernel_rfl))
  f60 := Try.func36.trans (congrArg some (by kernel_rfl))
  f66 := Try.func43.trans (congrArg some (by kernel_rfl))
  f70 := Try.func45.trans (congrArg some (by kernel_rfl))
  f73 := Try.func46.trans (congrArg some (by kernel_rfl))
  t0 := Try.underlying0
  a0 := Try.isAgg0
  z0 := Try.sizeOf0
  v0 := Try.zeroValue0
  t3 := Try.underlying3
  a3 := Try.isAgg3
  z3 := Try.sizeOf3
  v3 := Try.zeroValue3
  t4 := Try.underlying4
  a4 := Try.isAgg4
  z4 := Try.sizeOf4
  v4 := Try.zeroValue4
  t5 := Try.underlying5
  a5 := Try.isAgg5
  z5 := Try.sizeOf5
  v5 := Try.zeroValue5
  t9 := Try.underlying9
  a9 := Try.isAgg9
  z9 := Try.sizeOf9
  v9 := Try.zeroValue9
  t30 := Try.underlying31
  a30 := Try.isAgg31
  z30 := Try.sizeOf31
  v30 := Try.zeroValue31 }
open Go.RowKit Go.Lib in
theorem Try.filepath_Base (s : ByteArray) (w : World) (hs : s.size ≤ 9223372036854775807) :
    Calls Try.prog 33 #[.string s] w fun e w' => e = .returned (.string ⟨(Pa.base s.data.toList).toArray⟩) ∧ w' = w := Any.filepath_Base Try.laysPa32 s w hs
def Try.laysPa36_ren : Go.Shelf.Ren := ⟨fun | 36 => 32 | 53 => 39 | 57 => 38 | 56 => 42 | 59 => 44 | 60 => 36 | 66 => 43 | 70 => 45 | 73 => 46 | n => n, fun | 9 => 9 | 24 => 24 | 3 => 3 | 4 => 4 | 5 => 5 | 30 => 31 | 0 => 0 | n => n, fun | n => n⟩
theorem Try.laysPa36 : Go.Proofs.Lays.p36 Try.prog Try.laysPa36_ren := {
  mixed := by kernel_rfl
  f36 := Try.func32.trans (congrArg some (by kernel_rfl))
  f53 := Try.func39.trans (congrArg some (by kernel_rfl))
  f56 := Try.func42.trans (congrArg some (by kernel_rfl))
  f57 := Try.func38.trans (congrArg some (by kernel_rfl))
  f59 := Try.func44.trans (congrArg some (by kernel_rfl))
  f60 := Try.func36.trans (congrArg some (by kernel_rfl))
  f66 := Try.func43.trans (congrArg some (by kernel_rfl))
  f70 := Try.func45.trans (congrArg some (by kernel_rfl))
  f73 := Try.func46.trans (congrArg some (by kernel_rfl))
  t0 := Try.underlying0
  a0 := Try.isAgg0
  z0 := Try.sizeOf0
  v0 := Try.zeroValue0
  t3 := Try.underlying3
  a3 := Try.isAgg3
  z3 := Try.sizeOf3
  v3 := Try.zeroValue3
  t4 := Try.underlying4
  a4 := Try.isAgg4
  z4 := Try.sizeOf4
  v4 := Try.zeroValue4
  t5 := Try.underlying5
  a5 := Try.isAgg5
  z5 := Try.sizeOf5
  v5 := Try.zeroValue5
  t9 := Try.underlying9
  a9 := Try.isAgg9
  z9 := Try.sizeOf9
  v9 := Try.zeroValue9
  t24 := Try.underlying24
  a24 := Try.isAgg24
  z24 := Try.sizeOf24
  v24 := Try.zeroValue24
  t30 := Try.underlying31
  a30 := Try.isAgg31
  z30 := Try.sizeOf31
  v30 := Try.zeroValue31 }
open Go.RowKit Go.Lib in
theorem Try.filepath_Split (s : ByteArray) (w : World) (hs : s.size ≤ 9223372036854775807) :
    Calls Try.prog 32 #[.string s] w fun e w' => e = .returned (.tuple #[.string ⟨(Pa.split s.data.toList).1.toArray⟩, .string ⟨(Pa.split s.data.toList).2.toArray⟩]) ∧ ∃ n, w' = w.drewN n := Any.filepath_Split Try.laysPa36 s w hs
end Go.Proofs
