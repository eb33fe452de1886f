/-
  The walk of FnRelSelf.
-/
import Derived.Test.YtedaekkpnjcojaaLawRelUp
import Derived.Test.YtedaekkpnjcojaaLawsC1
import Derived.Test.YtedaekkpnjcojaaSpecJoin
import Derived.Test.YtedaekkpnjcojaaRelFixed
namespace Go.Proofs.Ytedaekkpnjcojaa
open Go.RowKit Go.Lib
open Go.Lib.Pa (clean isAbs split ext base dir els)

theorem self_rel (a : List (List UInt8)) : M.relOut a a = some [46] := by
  unfold M.relOut
  rw [M.cut_self]
  rfl
theorem clean_of_local {m : List UInt8} (h : M.ro m = false) : clean (M.J (M.E false m)) = clean m := by
  rw [M.clean_J (M.std_E false m), M.clean_eq m, h]
theorem joined_parts {b m z : List UInt8} (hl : localB m = true) (hz : z = Pa.join [b, m]) : M.ro z = M.ro b ∧ M.E (M.ro b) z = M.E (M.ro b) b ++ M.E false m := by
  obtain ⟨hm0, hmr, hmh⟩ := local_true hl
  rw [M.join_two _ _ hm0] at hz
  by_cases hb : b = []
  · subst hb
    rw [if_pos rfl] at hz
    subst hz
    refine ⟨by rw [M.ro_clean, hmr]; rfl, ?_⟩
    have h1 := M.E_clean m
    rw [hmr] at h1
    show M.E false (clean m) = M.E false [] ++ M.E false m
    rw [h1]
    rfl
  · rw [if_neg hb] at hz
    subst hz
    exact ⟨M.ro_joined hb, M.E_joined hb hmh⟩
/-- spec.Join of two texts in a slice just made -/
theorem sjoin2 (a b r : ByteArray) (w : World) (hz : a.size + b.size ≤ 1048576) (hr : S (Pa.join [a.data.toList, b.data.toList]) = r) :
    Calls Try.prog 24 #[.slice (some ⟨w.heap.size, 0, none⟩) 2 2] (w.alloc (.cells #[.string a, .string b] 9)) fun e w' => e = .returned (.string r) ∧ Below w.heap.size w w' :=
  (spec_Join _ [a.data.toList, b.data.toList] r _ (Rd_two w a b) (by simp) (by rw [M.wt_cons, M.wt_cons, M.wt_nil, ← Lib.size_eq, ← Lib.size_eq]; omega) hr).mono fun _ _ ⟨he, hb⟩ => ⟨he, ((Below.refl _ _).alloc (Nat.le_refl _) _).trans (hb.mono (by simp))⟩
theorem join_len2 (a b : ByteArray) {z : ByteArray} (h : S (Pa.join [a.data.toList, b.data.toList]) = z) (hz : a.size + b.size ≤ 1048576) : z.size ≤ 1048578 := by
  rw [← h, S_size]
  unfold Pa.join
  by_cases h0 : ([a.data.toList, b.data.toList].filter (· ≠ [])) = []
  · rw [if_pos h0]; simp
  · rw [if_neg h0]
    have h1 := M.clean_len_le (M.J (full [a.data.toList, b.data.toList]))
    have h2 := M.J_le_wt (full [a.data.toList, b.data.toList])
    have h3 := full_wt [a.data.toList, b.data.toList]
    rw [M.wt_cons, M.wt_cons, M.wt_nil, ← Lib.size_eq, ← Lib.size_eq] at h3
    have h4 := List.length_pos_iff.2 h0
    by_cases h5 : M.J (full [a.data.toList, b.data.toList]) = []
    · show (clean (M.J (full [a.data.toList, b.data.toList]))).length ≤ _
      rw [h5]; decide
    · have h6 := M.clean_len h5
      show (clean (M.J (full [a.data.toList, b.data.toList]))).length ≤ _
      omega

set_option maxHeartbeats 1600000 in
theorem law_FnRelSelf (b m : ByteArray) (w : World) (hbm : b.size + m.size ≤ 1048576) :
    Calls Try.prog 5 #[.string b, .string m] w fun e w' => e = .returned (.bool true) ∧ Below w.heap.size w w' := by
  have hself : ∀ W, Calls Try.prog 17 #[.string b, .string b] W fun e w' => e = .returned (.tuple #[.string ⟨#[46]⟩, .bool true]) ∧ Below W.heap.size W w' := fun W => by
    have h := impl_Rel_fixed b b (M.ro b.data.toList) W (by omega) (by omega) rfl rfl (fun _ h => h)
    rw [self_rel] at h
    exact h
  have HS := Lib.hid hself
  clear hself
  cases hl : localB m.data.toList with
  | false =>
    have HL := Lib.hid hl
    clear hl
    go_enter Try.func5, Try.ntmps5
    go_wp2_with fail
    refine (HS.out _).mono ?_
    rintro e w1 ⟨rfl, hb1⟩
    have HB1 := Lib.hid hb1
    clear hb1
    go_wp2_with fail
    refine (spec_Local m false _ (by omega) HL.out).mono ?_
    rintro e w2 ⟨rfl, hb2⟩
    have HB2 := Lib.hid (below_trans HB1.out hb2)
    clear hb2
    go_wp2
    go_ret
    exact ⟨rfl, HB2.out⟩
  | true =>
    obtain ⟨z, hz⟩ : ∃ z, S (Pa.join [b.data.toList, m.data.toList]) = z := ⟨_, rfl⟩
    obtain ⟨hzr, hzE⟩ := joined_parts hl (lst hz)
    have hzs := join_len2 b m hz hbm
    obtain ⟨c, hc⟩ : ∃ c, S (clean m.data.toList) = c := ⟨_, rfl⟩
    have hrel : ∀ W, Calls Try.prog 17 #[.string b, .string z] W fun e w' => e = .returned (.tuple #[.string c, .bool true]) ∧ Below W.heap.size W w' := fun W => by
      have h := impl_Rel_fixed b z (M.ro b.data.toList) W (by omega) (by omega) rfl hzr (fun _ h => by rw [hzE] at h; exact (List.append_eq_nil_iff.1 h).1)
      rw [hzE, M.relOut_down, clean_of_local (local_true hl).2.1] at h
      rw [← hc]
      exact h
    have HL := Lib.hid hl
    have HZ := Lib.hid hz
    have HC := Lib.hid hc
    have HRel := Lib.hid hrel
    clear hl hz hzr hzE hc hrel
    go_enter Try.func5, Try.ntmps5
    go_wp2_with fail
    refine (HS.out _).mono ?_
    rintro e w1 ⟨rfl, hb1⟩
    have HB1 := Lib.hid hb1
    clear hb1
    go_wp2_with fail
    refine (spec_Local m true _ (by omega) HL.out).mono ?_
    rintro e w2 ⟨rfl, hb2⟩
    have HB2 := Lib.hid (below_trans HB1.out hb2)
    clear hb2
    go_wp2_with fail
    refine (sjoin2 b m z _ hbm HZ.out).mono ?_
    rintro e w3 ⟨rfl, hb3⟩
    have HB3 := Lib.hid (below_trans HB2.out hb3)
    clear hb3 HB2
    go_wp2_with fail
    refine (spec_RelFixed b z _ (by omega) (by omega)).mono ?_
    rintro e w4 ⟨bl, rfl, _, hb4⟩
    have HB4 := Lib.hid (below_trans HB3.out hb4)
    clear hb4 HB3
    cases bl with
    | false =>
      go_wp2
      go_ret
      exact ⟨rfl, HB4.out⟩
    | true =>
      go_wp2_with fail
      refine (join2 b m z _ (by omega) HZ.out).mono ?_
      rintro e w5 ⟨rfl, hb5⟩
      have HB5 := Lib.hid (below_trans HB4.out hb5)
      clear hb5 HB4
      go_wp2_with fail
      refine (HRel.out _).mono ?_
      rintro e w6 ⟨rfl, hb6⟩
      have HB6 := Lib.hid (below_trans HB5.out hb6)
      clear hb6 HB5
      go_wp2_with fail
      refine (impl_Clean m c _ (by omega) HC.out).mono ?_
      rintro e w7 ⟨rfl, hb7⟩
      have HB7 := Lib.hid (below_trans HB6.out hb7)
      clear hb7 HB6
      go_wp2
      go_ret
      exact ⟨by simp, HB7.out⟩

end Go.Proofs.Ytedaekkpnjcojaa
