/-
  The contracts of impl.Clean and impl.Dir.
-/
import Derived.Test.YtodfjjkjkkpkhaaBasic
import Derived.Test.YtodfjjkjkkpkhaaParts
import Derived.Below
namespace Go.Proofs.Ytodfjjkjkkpkhaa
open Go.RowKit Go.Lib
open Go.Lib.Pa (clean isAbs split ext base dir)

theorem impl_Clean (s r : ByteArray) (w : World) (hs : s.size ≤ 281474976710656) (hr : S (clean s.data.toList) = r) : Calls Try.prog 16 #[.string s] w fun e w' => e = .returned (.string r) ∧ Below w.heap.size w w' := by
  have HR := Lib.hid hr
  clear hr
  go_enter Try.func16, Try.ntmps16
  go_wp2_with fail
  refine (Try.filepath_Clean s _ hs).mono ?_
  rintro e w1 ⟨rfl, hb⟩
  have HB := Lib.hid hb
  clear hb
  rw [show (⟨(clean s.data.toList).toArray⟩ : ByteArray) = r from HR.out]
  go_wp2
  go_ret
  exact ⟨rfl, HB.out⟩

theorem impl_Dir (s r : ByteArray) (w : World) (hs : s.size ≤ 281474976710656) (hr : S (dir s.data.toList) = r) : Calls Try.prog 21 #[.string s] w fun e w' => e = .returned (.string r) ∧ Below w.heap.size w w' := by
  have HR := Lib.hid hr
  clear hr
  go_enter Try.func21, Try.ntmps21
  go_wp2_with fail
  refine (Try.filepath_Dir s _ hs).mono ?_
  rintro e w1 ⟨rfl, hb⟩
  have HB := Lib.hid hb
  clear hb
  rw [show (⟨(dir s.data.toList).toArray⟩ : ByteArray) = r from HR.out]
  go_wp2
  go_ret
  exact ⟨rfl, HB.out⟩

theorem below_step {w w1 w2 : World} (h : Below w.heap.size w w1) (h2 : Below w1.heap.size w1 w2) : Below w.heap.size w w2 := h.trans (h2.mono h.size)
theorem dir_le (l : List UInt8) : (dir l).length ≤ l.length + 1 := by
  unfold dir
  have h1 := M.clean_len_le (split l).1
  have h2 : (split l).1.length ≤ l.length := by unfold split; exact List.length_take_le' _ _
  omega

end Go.Proofs.Ytodfjjkjkkpkhaa
