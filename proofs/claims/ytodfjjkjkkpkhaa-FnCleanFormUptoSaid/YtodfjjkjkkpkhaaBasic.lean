/-
  Contracts of the small functions of package spec (Rooted, Trailed) and of the thin package's IsAbs, for every string; no condition.
-/
import Derived.Test.YtodfjjkjkkpkhaaProg
import Derived.Test.YtodfjjkjkkpkhaaShelf
import Derived.Test.YtodfjjkjkkpkhaaMath
import Derived.WalkKit
import Derived.WalkSpells
import Derived.WalkLawsBesides
import Derived.Lib.Walk
import Derived.Lib.Hide
import Derived.BigQuiet
import Derived.Deep.QuietTactic
import Derived.Outline
namespace Go.Proofs.Ytodfjjkjkkpkhaa
open Go.RowKit Go.Lib
open Go.Lib.Pa (clean isAbs split ext base dir)

theorem ro_isAbs (l : List UInt8) : isAbs l = M.ro l := rfl


theorem isEmpty_of_size {s : ByteArray} (h : s.size = 0) : s.toList.isEmpty = true := by
  rw [Lib.toList_data, Pa.nil_of_size s (by omega)]; rfl
theorem isEmpty_of_pos {s : ByteArray} (h : 0 < s.size) : s.toList.isEmpty = false := by
  rw [Lib.toList_data]
  cases e : s.data.toList with
  | nil => rw [Lib.size_eq, e] at h; simp at h
  | cons a t => rfl

theorem spec_Rooted (s : ByteArray) (w : World) (hs : s.size ≤ 9223372036854775807) : Calls Try.prog 19 #[.string s] w fun e w' => e = .returned (.bool (M.ro s.data.toList)) ∧ w = w' := by
  by_cases h0 : 0 < s.size
  · have hE := isEmpty_of_pos h0
    have hr := Lib.hid (Pa.isAbs_pos s h0)
    go_enter Try.func19, Try.ntmps19
    go_wp2
    go_ret
    refine ⟨?_, rfl⟩
    rw [← ro_isAbs, hr.out]; rfl
  · have hE := isEmpty_of_size (s := s) (by omega)
    have hr := Lib.hid (Pa.isAbs_neg s h0)
    go_enter Try.func19, Try.ntmps19
    go_wp2
    go_ret
    refine ⟨?_, rfl⟩
    rw [← ro_isAbs, hr.out]; rfl

/-- it ends with a slash -/
def trailed (l : List UInt8) : Bool := l.getLast? == some 47

theorem last_at (s : ByteArray) (h : 0 < s.size) : s.data.toList.getLast? = some (s[s.size - 1]'(by omega)) := by
  rw [List.getLast?_eq_getElem?, ← Lib.size_eq, Pa.at_eq s (s.size - 1) (by omega)]

theorem trailed_pos (s : ByteArray) (h : 0 < s.size) : trailed s.data.toList = (((s[s.size - 1]'(by omega)).toNat : Int) == 47) := by
  unfold trailed
  rw [last_at s h, Pa.beq47]
  simp
theorem trailed_neg (s : ByteArray) (h : ¬ 0 < s.size) : trailed s.data.toList = false := by
  rw [Pa.nil_of_size s h]; rfl

theorem spec_Trailed (s : ByteArray) (w : World) (hs : s.size ≤ 9223372036854775807) : Calls Try.prog 20 #[.string s] w fun e w' => e = .returned (.bool (trailed s.data.toList)) ∧ w = w' := by
  by_cases h0 : 0 < s.size
  · have hE := isEmpty_of_pos h0
    have hr := Lib.hid (trailed_pos s h0)
    have h1 : 1 ≤ s.size := h0
    go_enter Try.func20, Try.ntmps20
    go_wp2
    go_ret
    refine ⟨?_, rfl⟩
    rw [hr.out]; rfl
  · have hE := isEmpty_of_size (s := s) (by omega)
    have hr := Lib.hid (trailed_neg s h0)
    go_enter Try.func20, Try.ntmps20
    go_wp2
    go_ret
    refine ⟨?_, rfl⟩
    rw [hr.out]; rfl

theorem spec_Trailed_is (s : ByteArray) (b : Bool) (w : World) (hs : s.size ≤ 9223372036854775807) (hb : trailed s.data.toList = b) : Calls Try.prog 20 #[.string s] w fun e w' => e = .returned (.bool b) ∧ w = w' := by
  subst hb; exact spec_Trailed s w hs
theorem spec_Rooted_is (s : ByteArray) (b : Bool) (w : World) (hs : s.size ≤ 9223372036854775807) (hb : M.ro s.data.toList = b) : Calls Try.prog 19 #[.string s] w fun e w' => e = .returned (.bool b) ∧ w = w' := by
  subst hb; exact spec_Rooted s w hs

/-- a list of bytes as a text -/
def S (l : List UInt8) : ByteArray := ⟨l.toArray⟩
theorem app_list (a b : ByteArray) : (a ++ b).data.toList = a.data.toList ++ b.data.toList := by
  rw [ByteArray.data_append, Array.toList_append]
theorem app_size (a b : ByteArray) : (a ++ b).size = a.size + b.size := ByteArray.size_append
theorem S_toList (l : List UInt8) : (S l).data.toList = l := rfl
theorem S_size (l : List UInt8) : (S l).size = l.length := Pa.size_mk l
theorem S_data (s : ByteArray) : S s.data.toList = s := Lib.mk_data s

end Go.Proofs.Ytodfjjkjkkpkhaa
