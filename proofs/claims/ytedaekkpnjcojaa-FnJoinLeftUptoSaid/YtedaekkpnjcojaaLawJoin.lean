/-
  The walk of FnJoin.
-/
import Derived.Test.YtedaekkpnjcojaaSpecJoin
namespace Go.Proofs.Ytedaekkpnjcojaa
open Go.RowKit Go.Lib
open Go.Lib.Pa (clean isAbs split ext base dir els)

theorem wt_both (L : List (List UInt8)) : Lib.lens L + L.length = M.wt L := by
  induction L with
  | nil => rfl
  | cons x r ih =>
    rw [M.wt_cons, ← ih]
    show x.length + Lib.lens r + (r.length + 1) = _
    omega

set_option maxHeartbeats 400000 in
theorem law_FnJoin (v : Value) (L : List (List UInt8)) (w : World) (hv : Rd w v L) (hwt : M.wt L ≤ 1048576) :
    Calls Try.prog 7 #[v] w fun e w' => e = .returned (.bool true) ∧ Below w.heap.size w w' := by
  have hb := wt_both L
  obtain ⟨r, hr⟩ : ∃ r, S (Pa.join L) = r := ⟨_, rfl⟩
  have HV := Lib.hid hv
  have HR := Lib.hid hr
  clear hv hr
  go_enter Try.func7, Try.ntmps7
  go_wp2_with fail
  refine (impl_Join v L r _ HV.out (by omega) (by omega) HR.out).mono ?_
  rintro e w1 ⟨rfl, hb1⟩
  have HB1 := Lib.hid hb1
  have HV1 := Lib.hid (HV.out.below hb1)
  clear hb1
  go_wp2_with fail
  refine (spec_Join v L r _ HV1.out (by omega) (by omega) HR.out).mono ?_
  rintro e w2 ⟨rfl, hb2⟩
  have HB2 := Lib.hid (below_trans HB1.out hb2)
  clear hb2
  go_wp2
  go_ret
  exact ⟨by simp, HB2.out⟩

end Go.Proofs.Ytedaekkpnjcojaa
