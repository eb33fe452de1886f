/-
  The walks of FnIsAbs, FnExt, FnExtForm, FnExtTrailed.
-/
import Derived.Test.YtkkbbjekiacfeaaBasic
import Derived.Test.YtkkbbjekiacfeaaParts
import Derived.Below
namespace Go.Proofs.Ytkkbbjekiacfeaa
open Go.RowKit Go.Lib
open Go.Lib.Pa (clean isAbs split ext base dir)

theorem law_FnIsAbs (s : ByteArray) (w : World) (hs : s.size ≤ 140737488351232) :
    Calls Try.prog 3 #[.string s] w fun e w' => e = .returned (.bool true) ∧ Below w.heap.size w w' := by
  go_enter Try.func3, Try.ntmps3
  go_wp2_with (first | (go_at_call 15; refine (impl_IsAbs _ _).mono ?_; rintro e w' ⟨rfl, rfl⟩) | (go_at_call 16; refine (spec_Rooted _ _ (by omega)).mono ?_; rintro e w' ⟨rfl, rfl⟩))
  go_ret
  exact ⟨by simp, Below.refl _ _⟩
end Go.Proofs.Ytkkbbjekiacfeaa
