/-
  Contracts of library functions at this translation, laid by the kit's tools lay-shelf and lay-plain; their remarks are struck.
-/
import Derived.Shelf.Strings.Search1
import Derived.Ground.PaProg
import Derived.Shelf.Path.FileSmall
import Derived.Shelf.Path.FLazyBuf
import Derived.Shelf.Path.FCleanPre
import Derived.Shelf.Path.FCleanRel
import Derived.Shelf.Path.FCleanAbs
import Derived.Shelf.Path.FClean
import Derived.Shelf.Path.CleanRules
import Derived.Test.YtodfjjkjkkpkhaaProg
namespace Go.Proofs
open Go.Shelf
def Try.lays217_ren : Go.Shelf.Ren := ⟨fun | 217 => 43 | 266 => 44 | n => n, fun | 9 => 9 | 5 => 5 | 3 => 3 | n => n, fun | n => n⟩
theorem Try.lays217 : Go.Proofs.Lays.n217 Try.prog Try.lays217_ren := {
  mixed := by kernel_rfl
  f217 := Try.func43.trans (congrArg some (by kernel_rfl))
  f266 := Try.func44.trans (congrArg some (by kernel_rfl))
  t3 := Try.underlying3
  a3 := Try.isAgg3
  z3 := Try.sizeOf3
  v3 := Try.zeroValue3
  t5 := Try.underlying5
  a5 := Try.isAgg5
  z5 := Try.sizeOf5
  v5 := Try.zeroValue5
  t9 := Try.underlying9
  a9 := Try.isAgg9
  z9 := Try.sizeOf9
  v9 := Try.zeroValue9 }
open Go.RowKit Go.Lib in
theorem Try.stringslite_IndexByte (s : ByteArray) (c : Int) (w : World) :
    Calls Try.prog 43 #[.string s, .int .u8 c] w fun e w' => e = .returned (.int .i64 (Lib.indexByte s.data.toList c.toNat.toUInt8)) ∧ w' = w := Any.stringslite_IndexByte Try.lays217 s c w
def Try.laysPa56_ren : Go.Shelf.Ren := ⟨fun | 56 => 33 | n => n, fun | 5 => 5 | 4 => 4 | n => n, fun | n => n⟩
theorem Try.laysPa56 : Go.Proofs.Lays.p56 Try.prog Try.laysPa56_ren := {
  mixed := by kernel_rfl
  f56 := Try.func33.trans (congrArg some (by kernel_rfl))
  t4 := Try.underlying4
  a4 := Try.isAgg4
  z4 := Try.sizeOf4
  v4 := Try.zeroValue4
  t5 := Try.underlying5
  a5 := Try.isAgg5
  z5 := Try.sizeOf5
  v5 := Try.zeroValue5 }
open Go.RowKit Go.Lib in
theorem Try.filepathlite_IsPathSeparator (c : Int) (w : World) :
    Calls Try.prog 33 #[.int .u8 c] w fun e w' => e = .returned (.bool (c == 47)) ∧ w' = w := Any.filepathlite_IsPathSeparator Try.laysPa56 c w
def Try.laysPa59_ren : Go.Shelf.Ren := ⟨fun | 59 => 35 | n => n, fun | 9 => 9 | 3 => 3 | n => n, fun | n => n⟩
theorem Try.laysPa59 : Go.Proofs.Lays.p59 Try.prog Try.laysPa59_ren := {
  mixed := by kernel_rfl
  f59 := Try.func35.trans (congrArg some (by kernel_rfl))
  t3 := Try.underlying3
  a3 := Try.isAgg3
  z3 := Try.sizeOf3
  v3 := Try.zeroValue3
  t9 := Try.underlying9
  a9 := Try.isAgg9
  z9 := Try.sizeOf9
  v9 := Try.zeroValue9 }
open Go.RowKit Go.Lib in
theorem Try.filepathlite_volumeNameLen (s : ByteArray) (w : World) :
    Calls Try.prog 35 #[.string s] w fun e w' => e = .returned (.int .i64 0) ∧ w' = w := Any.filepathlite_volumeNameLen Try.laysPa59 s w
def Try.laysPa60_ren : Go.Shelf.Ren := ⟨fun | 60 => 36 | 66 => 42 | 70 => 43 | 73 => 44 | n => n, fun | 9 => 9 | 5 => 5 | 3 => 3 | 4 => 4 | 30 => 36 | 0 => 0 | n => n, fun | n => n⟩
theorem Try.laysPa60 : Go.Proofs.Lays.p60 Try.prog Try.laysPa60_ren := {
  mixed := by kernel_rfl
  f60 := Try.func36.trans (congrArg some (by kernel_rfl))
  f66 := Try.func42.trans (congrArg some (by kernel_rfl))
  f70 := Try.func43.trans (congrArg some (by kernel_rfl))
  f73 := Try.func44.trans (congrArg some (by kernel_rfl))
  t0 := Try.underlying0
  a0 := Try.isAgg0
  z0 := Try.sizeOf0
  v0 := Try.zeroValue0
  t3 := Try.underlying3
  a3 := Try.isAgg3
  z3 := Try.sizeOf3
  v3 := Try.zeroValue3
  t4 := Try.underlying4
  a4 := Try.isAgg4
  z4 := Try.sizeOf4
  v4 := Try.zeroValue4
  t5 := Try.underlying5
  a5 := Try.isAgg5
  z5 := Try.sizeOf5
  v5 := Try.zeroValue5
  t9 := Try.underlying9
  a9 := Try.isAgg9
  z9 := Try.sizeOf9
  v9 := Try.zeroValue9
  t30 := Try.underlying36
  a30 := Try.isAgg36
  z30 := Try.sizeOf36
  v30 := Try.zeroValue36 }
open Go.RowKit Go.Lib in
theorem Try.filepathlite_FromSlash (s : ByteArray) (w : World) :
    Calls Try.prog 36 #[.string s] w fun e w' => e = .returned (.string s) ∧ w' = w := Any.filepathlite_FromSlash Try.laysPa60 s w
def Try.laysPa57_ren : Go.Shelf.Ren := ⟨fun | 57 => 34 | 59 => 35 | 60 => 36 | 66 => 42 | 70 => 43 | 73 => 44 | n => n, fun | 9 => 9 | 3 => 3 | 5 => 5 | 4 => 4 | 30 => 36 | 0 => 0 | n => n, fun | n => n⟩
theorem Try.laysPa57 : Go.Proofs.Lays.p57 Try.prog Try.laysPa57_ren := {
  mixed := by kernel_rfl
  f57 := Try.func34.trans (congrArg some (by kernel_rfl))
  f59 := Try.func35.trans (congrArg some (by kernel_rfl))
  f60 := Try.func36.trans (congrArg some (by kernel_rfl))
  f66 := Try.func42.trans (congrArg some (by kernel_rfl))
  f70 := Try.func43.trans (congrArg some (by kernel_rfl))
  f73 := Try.func44.trans (congrArg some (by kernel_rfl))
  t0 := Try.underlying0
  a0 := Try.isAgg0
  z0 := Try.sizeOf0
  v0 := Try.zeroValue0
  t3 := Try.underlying3
  a3 := Try.isAgg3
  z3 := Try.sizeOf3
  v3 := Try.zeroValue3
  t4 := Try.underlying4
  a4 := Try.isAgg4
  z4 := Try.sizeOf4
  v4 := Try.zeroValue4
  t5 := Try.underlying5
  a5 := Try.isAgg5
  z5 := Try.sizeOf5
  v5 := Try.zeroValue5
  t9 := Try.underlying9
  a9 := Try.isAgg9
  z9 := Try.sizeOf9
  v9 := Try.zeroValue9
  t30 := Try.underlying36
  a30 := Try.isAgg36
  z30 := Try.sizeOf36
  v30 := Try.zeroValue36 }
open Go.RowKit Go.Lib in
theorem Try.filepathlite_VolumeName (s : ByteArray) (w : World) :
    Calls Try.prog 34 #[.string s] w fun e w' => e = .returned (.string ⟨#[]⟩) ∧ w' = w := Any.filepathlite_VolumeName Try.laysPa57 s w
def Try.laysPa49_ren : Go.Shelf.Ren := ⟨fun | 49 => 29 | 56 => 33 | 57 => 34 | 59 => 35 | 60 => 36 | 66 => 42 | 70 => 43 | 73 => 44 | n => n, fun | 9 => 9 | 4 => 4 | 3 => 3 | 5 => 5 | 30 => 36 | 0 => 0 | n => n, fun | n => n⟩
theorem Try.laysPa49 : Go.Proofs.Lays.p49 Try.prog Try.laysPa49_ren := {
  mixed := by kernel_rfl
  f49 := Try.func29.trans (congrArg some (by kernel_rfl))
  f56 := Try.func33.trans (congrArg some (by kernel_rfl))
  f57 := Try.func34.trans (congrArg some (by kernel_rfl))
  f59 := Try.func35.trans (congrArg some (by kernel_rfl))
  f60 := Try.func36.trans (congrArg some (by kernel_rfl))
  f66 := Try.func42.trans (congrArg some (by kernel_rfl))
  f70 := Try.func43.trans (congrArg some (by kernel_rfl))
  f73 := Try.func44.trans (congrArg some (by kernel_rfl))
  t0 := Try.underlying0
  a0 := Try.isAgg0
  z0 := Try.sizeOf0
  v0 := Try.zeroValue0
  t3 := Try.underlying3
  a3 := Try.isAgg3
  z3 := Try.sizeOf3
  v3 := Try.zeroValue3
  t4 := Try.underlying4
  a4 := Try.isAgg4
  z4 := Try.sizeOf4
  v4 := Try.zeroValue4
  t5 := Try.underlying5
  a5 := Try.isAgg5
  z5 := Try.sizeOf5
  v5 := Try.zeroValue5
  t9 := Try.underlying9
  a9 := Try.isAgg9
  z9 := Try.sizeOf9
  v9 := Try.zeroValue9
  t30 := Try.underlying36
  a30 := Try.isAgg36
  z30 := Try.sizeOf36
  v30 := Try.zeroValue36 }
open Go.RowKit Go.Lib in
theorem Try.filepathlite_Base (s : ByteArray) (w : World) (hs : s.size ≤ 9223372036854775807) :
    Calls Try.prog 29 #[.string s] w fun e w' => e = .returned (.string ⟨(Pa.base s.data.toList).toArray⟩) ∧ w' = w := Any.filepathlite_Base Try.laysPa49 s w hs
def Try.laysPa32_ren : Go.Shelf.Ren := ⟨fun | 32 => 23 | 49 => 29 | 56 => 33 | 57 => 34 | 59 => 35 | 60 => 36 | 66 => 42 | 70 => 43 | 73 => 44 | n => n, fun | 9 => 9 | 4 => 4 | 3 => 3 | 5 => 5 | 30 => 36 | 0 => 0 | n => n, fun | n => n⟩
theorem Try.laysPa32 : Go.Proofs.Lays.p32 Try.prog Try.laysPa32_ren := {
  mixed := by kernel_rfl
  f32 := Try.func23.trans (congrArg some (by kernel_rfl))
  f49 := Try.func29.trans (congrArg some (by kernel_rfl))
  f56 := Try.func33.trans (congrArg some (by kernel_rfl))
  f57 := Try.func34.trans (congrArg some (by kernel_rfl))
  f59 := Try.func35.trans (congrArg some (by kernel_rfl))
  f60 := Try.func36.trans (congrArg some (by kernel_rfl))
  f66 := Try.func42.trans (congrArg some (by kernel_rfl))
  f70 := Try.func43.trans (congrArg some (by kernel_rfl))
  f73 := Try.func44.trans (congrArg some (by kernel_rfl))
  t0 := Try.underlying0
  a0 := Try.isAgg0
  z0 := Try.sizeOf0
  v0 := Try.zeroValue0
  t3 := Try.underlying3
  a3 := Try.isAgg3
  z3 := Try.sizeOf3
  v3 := Try.zeroValue3
  t4 := Try.underlying4
  a4 := Try.isAgg4
  z4 := Try.sizeOf4
  v4 := Try.zeroValue4
  t5 := Try.underlying5
  a5 := Try.isAgg5
  z5 := Try.sizeOf5
  v5 := Try.zeroValue5
  t9 := Try.underlying9
  a9 := Try.isAgg9
  z9 := Try.sizeOf9
  v9 := Try.zeroValue9
  t30 := Try.underlying36
  a30 := Try.isAgg36
  z30 := Try.sizeOf36
  v30 := Try.zeroValue36 }
open Go.RowKit Go.Lib in
theorem Try.filepath_Base (s : ByteArray) (w : World) (hs : s.size ≤ 9223372036854775807) :
    Calls Try.prog 23 #[.string s] w fun e w' => e = .returned (.string ⟨(Pa.base s.data.toList).toArray⟩) ∧ w' = w := Any.filepath_Base Try.laysPa32 s w hs
def Try.laysPa62_ren : Go.Shelf.Ren := ⟨fun | 62 => 38 | n => n, fun | 55 => 42 | 3 => 3 | 5 => 5 | 0 => 0 | 53 => 38 | 30 => 36 | 4 => 4 | 9 => 9 | n => n, fun | n => n⟩
theorem Try.laysPa62 : Go.Proofs.Lays.p62 Try.prog Try.laysPa62_ren := {
  mixed := by kernel_rfl
  f62 := Try.func38.trans (congrArg some (by kernel_rfl))
  t0 := Try.underlying0
  a0 := Try.isAgg0
  z0 := Try.sizeOf0
  v0 := Try.zeroValue0
  t3 := Try.underlying3
  a3 := Try.isAgg3
  z3 := Try.sizeOf3
  v3 := Try.zeroValue3
  t4 := Try.underlying4
  a4 := Try.isAgg4
  z4 := Try.sizeOf4
  v4 := Try.zeroValue4
  t5 := Try.underlying5
  a5 := Try.isAgg5
  z5 := Try.sizeOf5
  v5 := Try.zeroValue5
  t9 := Try.underlying9
  a9 := Try.isAgg9
  z9 := Try.sizeOf9
  v9 := Try.zeroValue9
  t30 := Try.underlying36
  a30 := Try.isAgg36
  z30 := Try.sizeOf36
  v30 := Try.zeroValue36
  t53 := Try.underlying38
  a53 := Try.isAgg38
  z53 := Try.sizeOf38
  v53 := Try.zeroValue38
  t55 := Try.underlying42
  a55 := Try.isAgg42
  z55 := Try.sizeOf42
  v55 := Try.zeroValue42 }
open Go.RowKit Go.Lib in
theorem Try.flazybuf_index (B : Nat) (s : ByteArray) (c : List UInt8) (wv i : Nat) (w : World) (hz : Lz.Lazy5 38 5 B s c wv w) (hi : i < s.size) :
    Calls Try.prog 38 #[.pointer (some ⟨B, 0, none⟩), .int .i64 i] w fun e w' => e = .returned (.int .u8 ((c[i]?.getD 0).toNat : Int)) ∧ w' = w := Any.flazybuf_index Try.laysPa62 B s c wv i w hz hi
def Try.laysPa64_ren : Go.Shelf.Ren := ⟨fun | 64 => 40 | n => n, fun | 55 => 42 | 9 => 9 | 0 => 0 | 53 => 38 | 30 => 36 | 4 => 4 | 3 => 3 | 5 => 5 | n => n, fun | n => n⟩
theorem Try.laysPa64 : Go.Proofs.Lays.p64 Try.prog Try.laysPa64_ren := {
  mixed := by kernel_rfl
  f64 := Try.func40.trans (congrArg some (by kernel_rfl))
  t0 := Try.underlying0
  a0 := Try.isAgg0
  z0 := Try.sizeOf0
  v0 := Try.zeroValue0
  t3 := Try.underlying3
  a3 := Try.isAgg3
  z3 := Try.sizeOf3
  v3 := Try.zeroValue3
  t4 := Try.underlying4
  a4 := Try.isAgg4
  z4 := Try.sizeOf4
  v4 := Try.zeroValue4
  t5 := Try.underlying5
  a5 := Try.isAgg5
  z5 := Try.sizeOf5
  v5 := Try.zeroValue5
  t9 := Try.underlying9
  a9 := Try.isAgg9
  z9 := Try.sizeOf9
  v9 := Try.zeroValue9
  t30 := Try.underlying36
  a30 := Try.isAgg36
  z30 := Try.sizeOf36
  v30 := Try.zeroValue36
  t53 := Try.underlying38
  a53 := Try.isAgg38
  z53 := Try.sizeOf38
  v53 := Try.zeroValue38
  t55 := Try.underlying42
  a55 := Try.isAgg42
  z55 := Try.sizeOf42
  v55 := Try.zeroValue42 }
open Go.RowKit Go.Lib in
theorem Try.flazybuf_string (B : Nat) (s : ByteArray) (c : List UInt8) (wv : Nat) (w : World) (hz : Lz.Lazy5 38 5 B s c wv w) (hw : wv ≤ s.size) (hbig : s.size ≤ 281474976710656) :
    Calls Try.prog 40 #[.pointer (some ⟨B, 0, none⟩)] w fun e w' => e = .returned (.string ⟨(c.take wv).toArray⟩) ∧ ∃ n, w' = w.drewN n := Any.flazybuf_string Try.laysPa64 B s c wv w hz hw hbig
def Try.laysPah61_ren : Go.Shelf.Ren := ⟨fun | 61 => 37 | n => n, fun | 55 => 42 | 5 => 5 | 0 => 0 | 53 => 38 | 30 => 36 | 4 => 4 | 3 => 3 | 9 => 9 | n => n, fun | n => n⟩
theorem Try.laysPah61 : Go.Proofs.Lays.ph61 Try.prog Try.laysPah61_ren := {
  mixed := by kernel_rfl
  f61 := Try.func37.trans (congrArg some (by kernel_rfl))
  t0 := Try.underlying0
  a0 := Try.isAgg0
  z0 := Try.sizeOf0
  v0 := Try.zeroValue0
  t3 := Try.underlying3
  a3 := Try.isAgg3
  z3 := Try.sizeOf3
  v3 := Try.zeroValue3
  t4 := Try.underlying4
  a4 := Try.isAgg4
  z4 := Try.sizeOf4
  v4 := Try.zeroValue4
  t5 := Try.underlying5
  a5 := Try.isAgg5
  z5 := Try.sizeOf5
  v5 := Try.zeroValue5
  t9 := Try.underlying9
  a9 := Try.isAgg9
  z9 := Try.sizeOf9
  v9 := Try.zeroValue9
  t30 := Try.underlying36
  a30 := Try.isAgg36
  z30 := Try.sizeOf36
  v30 := Try.zeroValue36
  t53 := Try.underlying38
  a53 := Try.isAgg38
  z53 := Try.sizeOf38
  v53 := Try.zeroValue38
  t55 := Try.underlying42
  a55 := Try.isAgg42
  z55 := Try.sizeOf42
  v55 := Try.zeroValue42
  info5 := by kernel_rfl }
open Go.RowKit Go.Lib in
theorem Try.flazybuf_append (B : Nat) (s : ByteArray) (c : List UInt8) (wv : Nat) (x : UInt8) (w : World) (hz : Lz.Lazy5 38 5 B s c wv w) (hw : wv < s.size) (hbig : s.size ≤ 281474976710656) :
    Calls Try.prog 37 #[.pointer (some ⟨B, 0, none⟩), .int .u8 (x.toNat : Int)] w fun e w' => e = .returned (.tuple #[]) ∧ ∃ c', Lz.Lazy5 38 5 B s c' (wv + 1) w' ∧ c'.take (wv + 1) = c.take wv ++ [x] ∧ Below B w w' := Any.flazybuf_append Try.laysPah61 B s c wv x w hz hw hbig
open Go.RowKit Go.Lib in
theorem Try.flazybuf_append47 (B : Nat) (s : ByteArray) (c : List UInt8) (wv : Nat) (w : World) (hz : Lz.Lazy5 38 5 B s c wv w) (hw : wv < s.size) (hbig : s.size ≤ 281474976710656) :
    Calls Try.prog 37 #[.pointer (some ⟨B, 0, none⟩), .int .u8 47] w fun e w' => e = .returned (.tuple #[]) ∧ ∃ c', Lz.Lazy5 38 5 B s c' (wv + 1) w' ∧ c'.take (wv + 1) = c.take wv ++ [47] ∧ Below B w w' := Any.flazybuf_append47 Try.laysPah61 B s c wv w hz hw hbig
open Go.RowKit Go.Lib in
theorem Try.flazybuf_append46 (B : Nat) (s : ByteArray) (c : List UInt8) (wv : Nat) (w : World) (hz : Lz.Lazy5 38 5 B s c wv w) (hw : wv < s.size) (hbig : s.size ≤ 281474976710656) :
    Calls Try.prog 37 #[.pointer (some ⟨B, 0, none⟩), .int .u8 46] w fun e w' => e = .returned (.tuple #[]) ∧ ∃ c', Lz.Lazy5 38 5 B s c' (wv + 1) w' ∧ c'.take (wv + 1) = c.take wv ++ [46] ∧ Below B w w' := Any.flazybuf_append46 Try.laysPah61 B s c wv w hz hw hbig
def Try.laysPa63_ren : Go.Shelf.Ren := ⟨fun | 63 => 39 | n => n, fun | 55 => 42 | 53 => 38 | 9 => 9 | 30 => 36 | 3 => 3 | 5 => 5 | n => n, fun | n => n⟩
theorem Try.laysPa63 : Go.Proofs.Lays.p63 Try.prog Try.laysPa63_ren := {
  mixed := by kernel_rfl
  f63 := Try.func39.trans (congrArg some (by kernel_rfl))
  t3 := Try.underlying3
  a3 := Try.isAgg3
  z3 := Try.sizeOf3
  v3 := Try.zeroValue3
  t5 := Try.underlying5
  a5 := Try.isAgg5
  z5 := Try.sizeOf5
  v5 := Try.zeroValue5
  t9 := Try.underlying9
  a9 := Try.isAgg9
  z9 := Try.sizeOf9
  v9 := Try.zeroValue9
  t30 := Try.underlying36
  a30 := Try.isAgg36
  z30 := Try.sizeOf36
  v30 := Try.zeroValue36
  t53 := Try.underlying38
  a53 := Try.isAgg38
  z53 := Try.sizeOf38
  v53 := Try.zeroValue38
  t55 := Try.underlying42
  a55 := Try.isAgg42
  z55 := Try.sizeOf42
  v55 := Try.zeroValue42 }
open Go.RowKit Go.Lib in
theorem Try.filepathlite_postClean (v : Value) (w : World) :
    Calls Try.prog 39 #[v] w fun e w' => e = .returned (.tuple #[]) ∧ w' = w := Any.filepathlite_postClean Try.laysPa63 v w
def Try.laysPah54_ren : Go.Shelf.Ren := ⟨fun | 54 => 30 | 59 => 35 | 56 => 33 | 60 => 36 | 61 => 37 | 62 => 38 | 63 => 39 | 64 => 40 | 66 => 42 | 70 => 43 | 73 => 44 | n => n, fun | 9 => 9 | 3 => 3 | 4 => 4 | 5 => 5 | 53 => 38 | 0 => 0 | 55 => 42 | 30 => 36 | n => n, fun | n => n⟩
theorem Try.laysPah54 : Go.Proofs.Lays.ph54 Try.prog Try.laysPah54_ren := {
  mixed := by kernel_rfl
  f54 := Try.func30.trans (congrArg some (by kernel_rfl))
  f56 := Try.func33.trans (congrArg some (by kernel_rfl))
  f59 := Try.func35.trans (congrArg some (by kernel_rfl))
  f60 := Try.func36.trans (congrArg some (by kernel_rfl))
  f61 := Try.func37.trans (congrArg some (by kernel_rfl))
  f62 := Try.func38.trans (congrArg some (by kernel_rfl))
  f63 := Try.func39.trans (congrArg some (by kernel_rfl))
  f64 := Try.func40.trans (congrArg some (by kernel_rfl))
  f66 := Try.func42.trans (congrArg some (by kernel_rfl))
  f70 := Try.func43.trans (congrArg some (by kernel_rfl))
  f73 := Try.func44.trans (congrArg some (by kernel_rfl))
  t0 := Try.underlying0
  a0 := Try.isAgg0
  z0 := Try.sizeOf0
  v0 := Try.zeroValue0
  t3 := Try.underlying3
  a3 := Try.isAgg3
  z3 := Try.sizeOf3
  v3 := Try.zeroValue3
  t4 := Try.underlying4
  a4 := Try.isAgg4
  z4 := Try.sizeOf4
  v4 := Try.zeroValue4
  t5 := Try.underlying5
  a5 := Try.isAgg5
  z5 := Try.sizeOf5
  v5 := Try.zeroValue5
  t9 := Try.underlying9
  a9 := Try.isAgg9
  z9 := Try.sizeOf9
  v9 := Try.zeroValue9
  t30 := Try.underlying36
  a30 := Try.isAgg36
  z30 := Try.sizeOf36
  v30 := Try.zeroValue36
  t53 := Try.underlying38
  a53 := Try.isAgg38
  z53 := Try.sizeOf38
  v53 := Try.zeroValue38
  t55 := Try.underlying42
  a55 := Try.isAgg42
  z55 := Try.sizeOf42
  v55 := Try.zeroValue42
  info5 := by kernel_rfl }
open Go.RowKit Go.Lib in
theorem Try.filepathlite_Clean_rel (s : ByteArray) (w : World) (hbig : s.size ≤ 281474976710656) (h0 : 0 < s.size) (hro : (s[0]'h0) ≠ 47) (R RR : List UInt8) (hR : Pa.cleanLoop s.data.toList false s.data.toList.length [] 0 0 = R) (hRR : (if R = [] then [46] else R) = RR) :
    Calls Try.prog 30 #[.string s] w fun e w' => e = .returned (.string ⟨RR.toArray⟩) ∧ RR.length ≤ s.size ∧ Below w.heap.size w w' := Any.filepathlite_Clean_rel Try.laysPah54 s w hbig h0 hro R RR hR hRR
open Go.RowKit Go.Lib in
theorem Try.filepathlite_Clean_abs (s : ByteArray) (w : World) (hbig : s.size ≤ 281474976710656) (h0 : 0 < s.size) (hro : (s[0]'h0) = 47) (R RR : List UInt8) (hR : Pa.cleanLoop s.data.toList true s.data.toList.length [47] 1 1 = R) (hRR : (if R = [] then [46] else R) = RR) :
    Calls Try.prog 30 #[.string s] w fun e w' => e = .returned (.string ⟨RR.toArray⟩) ∧ RR.length ≤ s.size ∧ Below w.heap.size w w' := Any.filepathlite_Clean_abs Try.laysPah54 s w hbig h0 hro R RR hR hRR
open Go.RowKit Go.Lib in
theorem Try.filepathlite_Clean (s : ByteArray) (w : World) (hbig : s.size ≤ 281474976710656) :
    Calls Try.prog 30 #[.string s] w fun e w' => e = .returned (.string ⟨(Pa.clean s.data.toList).toArray⟩) ∧ (Pa.clean s.data.toList).length ≤ s.size + 1 ∧ Below w.heap.size w w' := Any.filepathlite_Clean Try.laysPah54 s w hbig
def Try.laysPah37_ren : Go.Shelf.Ren := ⟨fun | 37 => 24 | 54 => 30 | 59 => 35 | 56 => 33 | 60 => 36 | 61 => 37 | 62 => 38 | 63 => 39 | 64 => 40 | 66 => 42 | 70 => 43 | 73 => 44 | n => n, fun | 9 => 9 | 3 => 3 | 4 => 4 | 5 => 5 | 53 => 38 | 0 => 0 | 55 => 42 | 30 => 36 | n => n, fun | n => n⟩
theorem Try.laysPah37 : Go.Proofs.Lays.ph37 Try.prog Try.laysPah37_ren := {
  mixed := by kernel_rfl
  f37 := Try.func24.trans (congrArg some (by kernel_rfl))
  f54 := Try.func30.trans (congrArg some (by kernel_rfl))
  f56 := Try.func33.trans (congrArg some (by kernel_rfl))
  f59 := Try.func35.trans (congrArg some (by kernel_rfl))
  f60 := Try.func36.trans (congrArg some (by kernel_rfl))
  f61 := Try.func37.trans (congrArg some (by kernel_rfl))
  f62 := Try.func38.trans (congrArg some (by kernel_rfl))
  f63 := Try.func39.trans (congrArg some (by kernel_rfl))
  f64 := Try.func40.trans (congrArg some (by kernel_rfl))
  f66 := Try.func42.trans (congrArg some (by kernel_rfl))
  f70 := Try.func43.trans (congrArg some (by kernel_rfl))
  f73 := Try.func44.trans (congrArg some (by kernel_rfl))
  t0 := Try.underlying0
  a0 := Try.isAgg0
  z0 := Try.sizeOf0
  v0 := Try.zeroValue0
  t3 := Try.underlying3
  a3 := Try.isAgg3
  z3 := Try.sizeOf3
  v3 := Try.zeroValue3
  t4 := Try.underlying4
  a4 := Try.isAgg4
  z4 := Try.sizeOf4
  v4 := Try.zeroValue4
  t5 := Try.underlying5
  a5 := Try.isAgg5
  z5 := Try.sizeOf5
  v5 := Try.zeroValue5
  t9 := Try.underlying9
  a9 := Try.isAgg9
  z9 := Try.sizeOf9
  v9 := Try.zeroValue9
  t30 := Try.underlying36
  a30 := Try.isAgg36
  z30 := Try.sizeOf36
  v30 := Try.zeroValue36
  t53 := Try.underlying38
  a53 := Try.isAgg38
  z53 := Try.sizeOf38
  v53 := Try.zeroValue38
  t55 := Try.underlying42
  a55 := Try.isAgg42
  z55 := Try.sizeOf42
  v55 := Try.zeroValue42
  info5 := by kernel_rfl }
open Go.RowKit Go.Lib in
theorem Try.filepath_Clean (s : ByteArray) (w : World) (hbig : s.size ≤ 281474976710656) :
    Calls Try.prog 24 #[.string s] w fun e w' => e = .returned (.string ⟨(Pa.clean s.data.toList).toArray⟩) ∧ Below w.heap.size w w' := Any.filepath_Clean Try.laysPah37 s w hbig
def Try.laysPah51_ren : Go.Shelf.Ren := ⟨fun | 51 => 32 | 57 => 34 | 56 => 33 | 54 => 30 | 59 => 35 | 60 => 36 | 61 => 37 | 62 => 38 | 63 => 39 | 64 => 40 | 66 => 42 | 70 => 43 | 73 => 44 | n => n, fun | 9 => 9 | 3 => 3 | 4 => 4 | 5 => 5 | 53 => 38 | 0 => 0 | 55 => 42 | 30 => 36 | n => n, fun | n => n⟩
theorem Try.laysPah51 : Go.Proofs.Lays.ph51 Try.prog Try.laysPah51_ren := {
  mixed := by kernel_rfl
  f51 := Try.func32.trans (congrArg some (by kernel_rfl))
  f54 := Try.func30.trans (congrArg some (by kernel_rfl))
  f56 := Try.func33.trans (congrArg some (by kernel_rfl))
  f57 := Try.func34.trans (congrArg some (by kernel_rfl))
  f59 := Try.func35.trans (congrArg some (by kernel_rfl))
  f60 := Try.func36.trans (congrArg some (by kernel_rfl))
  f61 := Try.func37.trans (congrArg some (by kernel_rfl))
  f62 := Try.func38.trans (congrArg some (by kernel_rfl))
  f63 := Try.func39.trans (congrArg some (by kernel_rfl))
  f64 := Try.func40.trans (congrArg some (by kernel_rfl))
  f66 := Try.func42.trans (congrArg some (by kernel_rfl))
  f70 := Try.func43.trans (congrArg some (by kernel_rfl))
  f73 := Try.func44.trans (congrArg some (by kernel_rfl))
  t0 := Try.underlying0
  a0 := Try.isAgg0
  z0 := Try.sizeOf0
  v0 := Try.zeroValue0
  t3 := Try.underlying3
  a3 := Try.isAgg3
  z3 := Try.sizeOf3
  v3 := Try.zeroValue3
  t4 := Try.underlying4
  a4 := Try.isAgg4
  z4 := Try.sizeOf4
  v4 := Try.zeroValue4
  t5 := Try.underlying5
  a5 := Try.isAgg5
  z5 := Try.sizeOf5
  v5 := Try.zeroValue5
  t9 := Try.underlying9
  a9 := Try.isAgg9
  z9 := Try.sizeOf9
  v9 := Try.zeroValue9
  t30 := Try.underlying36
  a30 := Try.isAgg36
  z30 := Try.sizeOf36
  v30 := Try.zeroValue36
  t53 := Try.underlying38
  a53 := Try.isAgg38
  z53 := Try.sizeOf38
  v53 := Try.zeroValue38
  t55 := Try.underlying42
  a55 := Try.isAgg42
  z55 := Try.sizeOf42
  v55 := Try.zeroValue42
  info5 := by kernel_rfl }
open Go.RowKit Go.Lib in
theorem Try.filepathlite_Dir (s : ByteArray) (w : World) (hbig : s.size ≤ 281474976710656) :
    Calls Try.prog 32 #[.string s] w fun e w' => e = .returned (.string ⟨(Pa.dir s.data.toList).toArray⟩) ∧ Below w.heap.size w w' := Any.filepathlite_Dir Try.laysPah51 s w hbig
def Try.laysPah34_ren : Go.Shelf.Ren := ⟨fun | 34 => 27 | 51 => 32 | 57 => 34 | 56 => 33 | 54 => 30 | 59 => 35 | 60 => 36 | 61 => 37 | 62 => 38 | 63 => 39 | 64 => 40 | 66 => 42 | 70 => 43 | 73 => 44 | n => n, fun | 9 => 9 | 3 => 3 | 4 => 4 | 5 => 5 | 53 => 38 | 0 => 0 | 55 => 42 | 30 => 36 | n => n, fun | n => n⟩
theorem Try.laysPah34 : Go.Proofs.Lays.ph34 Try.prog Try.laysPah34_ren := {
  mixed := by kernel_rfl
  f34 := Try.func27.trans (congrArg some (by kernel_rfl))
  f51 := Try.func32.trans (congrArg some (by kernel_rfl))
  f54 := Try.func30.trans (congrArg some (by kernel_rfl))
  f56 := Try.func33.trans (congrArg some (by kernel_rfl))
  f57 := Try.func34.trans (congrArg some (by kernel_rfl))
  f59 := Try.func35.trans (congrArg some (by kernel_rfl))
  f60 := Try.func36.trans (congrArg some (by kernel_rfl))
  f61 := Try.func37.trans (congrArg some (by kernel_rfl))
  f62 := Try.func38.trans (congrArg some (by kernel_rfl))
  f63 := Try.func39.trans (congrArg some (by kernel_rfl))
  f64 := Try.func40.trans (congrArg some (by kernel_rfl))
  f66 := Try.func42.trans (congrArg some (by kernel_rfl))
  f70 := Try.func43.trans (congrArg some (by kernel_rfl))
  f73 := Try.func44.trans (congrArg some (by kernel_rfl))
  t0 := Try.underlying0
  a0 := Try.isAgg0
  z0 := Try.sizeOf0
  v0 := Try.zeroValue0
  t3 := Try.underlying3
  a3 := Try.isAgg3
  z3 := Try.sizeOf3
  v3 := Try.zeroValue3
  t4 := Try.underlying4
  a4 := Try.isAgg4
  z4 := Try.sizeOf4
  v4 := Try.zeroValue4
  t5 := Try.underlying5
  a5 := Try.isAgg5
  z5 := Try.sizeOf5
  v5 := Try.zeroValue5
  t9 := Try.underlying9
  a9 := Try.isAgg9
  z9 := Try.sizeOf9
  v9 := Try.zeroValue9
  t30 := Try.underlying36
  a30 := Try.isAgg36
  z30 := Try.sizeOf36
  v30 := Try.zeroValue36
  t53 := Try.underlying38
  a53 := Try.isAgg38
  z53 := Try.sizeOf38
  v53 := Try.zeroValue38
  t55 := Try.underlying42
  a55 := Try.isAgg42
  z55 := Try.sizeOf42
  v55 := Try.zeroValue42
  info5 := by kernel_rfl }
open Go.RowKit Go.Lib in
theorem Try.filepath_Dir (s : ByteArray) (w : World) (hbig : s.size ≤ 281474976710656) :
    Calls Try.prog 27 #[.string s] w fun e w' => e = .returned (.string ⟨(Pa.dir s.data.toList).toArray⟩) ∧ Below w.heap.size w w' := Any.filepath_Dir Try.laysPah34 s w hbig
open Go.RowKit Go.Lib in
theorem Try.filepath_Clean_rules (s : ByteArray) (w : World) (hbig : s.size ≤ 281474976710656) :
    Calls Try.prog 24 #[.string s] w fun e w' => e = .returned (.string ⟨(Pa.cleanEls s.data.toList).toArray⟩) ∧ Below w.heap.size w w' := Any.filepath_Clean_rules Try.laysPah37 s w hbig
open Go.RowKit Go.Lib in
theorem Try.filepath_Dir_rules (s : ByteArray) (w : World) (hbig : s.size ≤ 281474976710656) :
    Calls Try.prog 27 #[.string s] w fun e w' => e = .returned (.string ⟨(Pa.cleanEls (Pa.split s.data.toList).1).toArray⟩) ∧ Below w.heap.size w w' := Any.filepath_Dir_rules Try.laysPah34 s w hbig
end Go.Proofs
