/-
  The contract of impl.Base.
-/
import Derived.Test.YtodfjjkjkkpkhaaBasic
import Derived.Test.YtodfjjkjkkpkhaaParts
import Derived.Below
namespace Go.Proofs.Ytodfjjkjkkpkhaa
open Go.RowKit Go.Lib
open Go.Lib.Pa (clean isAbs split ext base dir)

theorem impl_Base (s r : ByteArray) (w : World) (hs : s.size ≤ 9223372036854775807) (hr : S (base s.data.toList) = r) : Calls Try.prog 15 #[.string s] w fun e w' => e = .returned (.string r) ∧ w = w' := by
  have HR := Lib.hid hr
  clear hr
  go_enter Try.func15, Try.ntmps15
  go_wp2_with fail
  refine (Try.filepath_Base s _ hs).mono ?_
  rintro e w1 ⟨rfl, rfl⟩
  rw [show (⟨(base s.data.toList).toArray⟩ : ByteArray) = r from HR.out]
  go_wp2
  go_ret
  exact ⟨rfl, rfl⟩
theorem base_le (l : List UInt8) : (base l).length ≤ l.length + 1 := by
  unfold base
  by_cases h : l = []
  · rw [if_pos h]; simp
  · rw [if_neg h]
    by_cases h2 : (split (Pa.trimSlashes l)).2 = []
    · rw [if_pos h2]; simp
    · rw [if_neg h2]
      have h3 : (Pa.trimSlashes l).length ≤ l.length := by
        unfold Pa.trimSlashes
        rw [List.length_reverse]
        exact Nat.le_trans (List.dropWhile_sublist _).length_le (by simp)
      have h4 : (split (Pa.trimSlashes l)).2.length ≤ (Pa.trimSlashes l).length := by
        unfold split; rw [List.length_drop]; omega
      omega

end Go.Proofs.Ytodfjjkjkkpkhaa
