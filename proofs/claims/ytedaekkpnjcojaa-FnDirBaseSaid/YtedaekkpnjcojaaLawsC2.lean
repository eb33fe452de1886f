/-
  The walks of FnAbsKept, FnDirBase.
-/
import Derived.Test.YtedaekkpnjcojaaLawsC1
namespace Go.Proofs.Ytedaekkpnjcojaa
open Go.RowKit Go.Lib
open Go.Lib.Pa (clean isAbs split ext base dir els)

theorem ro_join2 (a b : List UInt8) (h : a ≠ []) : M.ro (Pa.join [a, b]) = M.ro a := by
  by_cases hb : b = []
  · subst hb
    rw [join_right_nil]
    unfold Pa.join
    simp [h, M.ro_clean]
  · rw [M.join_two _ _ hb, if_neg h, M.ro_joined h]

set_option maxHeartbeats 400000 in
theorem law_FnAbsKept (p m : ByteArray) (w : World) (hp : p.size ≤ 140737488351232) (hm : m.size ≤ 140737488351232) : Calls Try.prog 12 #[.string p, .string m] w fun e w' => e = .returned (.bool true) ∧ Below w.heap.size w w' := by
  obtain ⟨q, hq⟩ : ∃ q, M.ro p.data.toList = q := ⟨_, rfl⟩
  obtain ⟨c, hc⟩ : ∃ c, S (clean p.data.toList) = c := ⟨_, rfl⟩
  have hcq : M.ro c.data.toList = q := by rw [lst hc, M.ro_clean, hq]
  have hsl : M.ro (⟨#[47]⟩ ++ p).data.toList = true := by rw [app_list]; rfl
  have HQ := Lib.hid hq
  have HC := Lib.hid hc
  have HCQ := Lib.hid hcq
  have HSL := Lib.hid hsl
  by_cases h0 : 0 < p.size
  · have pE := isEmpty_of_pos h0
    obtain ⟨z, hz⟩ : ∃ z, S (Pa.join [p.data.toList, m.data.toList]) = z := ⟨_, rfl⟩
    have hzq : M.ro z.data.toList = q := by rw [lst hz, ro_join2 _ _ (ne_nil_of h0), hq]
    have HZ := Lib.hid hz
    have HZQ := Lib.hid hzq
    clear hq hc hcq hsl hz hzq
    go_enter Try.func12, Try.ntmps12
    go_wp2_with fail
    refine (impl_IsAbs_is p q _ HQ.out).mono ?_
    rintro e w' ⟨rfl, rfl⟩
    go_wp2_with fail
    refine (impl_Clean p c _ (by omega) HC.out).mono ?_
    rintro e w1 ⟨rfl, hb1⟩
    have HB1 := Lib.hid hb1
    clear hb1
    go_wp2_with fail
    refine (impl_IsAbs_is c q _ HCQ.out).mono ?_
    rintro e w' ⟨rfl, rfl⟩
    have tq : (q != q) = false := by simp
    go_wp2_with fail
    refine (join2 p m z _ (by omega) HZ.out).mono ?_
    rintro e w2 ⟨rfl, hb2⟩
    have HB2 := Lib.hid (below_step HB1.out hb2)
    clear hb2 HB1
    go_wp2_with fail
    refine (impl_IsAbs_is z q _ HZQ.out).mono ?_
    rintro e w' ⟨rfl, rfl⟩
    go_wp2_with fail
    refine (impl_IsAbs_is _ true _ HSL.out).mono ?_
    rintro e w' ⟨rfl, rfl⟩
    go_wp2
    go_ret
    exact ⟨rfl, HB2.out⟩
  · have pE := isEmpty_of_size (s := p) (by omega)
    clear hq hc hcq hsl
    go_enter Try.func12, Try.ntmps12
    go_wp2_with fail
    refine (impl_IsAbs_is p q _ HQ.out).mono ?_
    rintro e w' ⟨rfl, rfl⟩
    go_wp2_with fail
    refine (impl_Clean p c _ (by omega) HC.out).mono ?_
    rintro e w1 ⟨rfl, hb1⟩
    have HB1 := Lib.hid hb1
    clear hb1
    go_wp2_with fail
    refine (impl_IsAbs_is c q _ HCQ.out).mono ?_
    rintro e w' ⟨rfl, rfl⟩
    have tq : (q != q) = false := by simp
    go_wp2_with fail
    refine (impl_IsAbs_is _ true _ HSL.out).mono ?_
    rintro e w' ⟨rfl, rfl⟩
    go_wp2
    go_ret
    exact ⟨rfl, HB1.out⟩

theorem clean_dot_slash {f : List UInt8} (h : 47 ∉ f) : clean (46 :: 47 :: f) = clean f := by
  have hr : M.ro f = false := by
    cases f with
    | nil => rfl
    | cons c t =>
      have : c ≠ 47 := fun e => h (by simp [e])
      unfold M.ro
      simp [this]
  refine M.clean_of (by rw [hr]; rfl) ?_
  have e : (46 : UInt8) :: 47 :: f = [46] ++ 47 :: f := rfl
  rw [e, Pa.els_app, M.els_free (e := [46]) (by decide)]
  simp [Pa.step_dot]

/-- FnDirBase -/
theorem dir_base {l : List UInt8} (ht : trailed l = false) : Pa.join [dir l, base l] = clean l := by
  by_cases hl : l = []
  · subst hl; decide
  · rcases M.cut_last 47 l with h | ⟨a, b, rfl, hb⟩
    · have hb1 : base l = l := M.base_name hl h
      have hd1 : dir l = [46] := by unfold dir; rw [M.split_free h]; rfl
      rw [hb1, hd1, M.join_two _ _ hl, if_neg (by simp)]
      exact clean_dot_slash h
    · have hbn : b ≠ [] := by
        rintro rfl
        unfold trailed at ht
        simp at ht
      have hb1 : base (a ++ 47 :: b) = b := M.base_file a hbn hb
      have hd1 : dir (a ++ 47 :: b) = clean (a ++ [47]) := by unfold dir; rw [M.split_mk hb]
      rw [hb1, hd1, M.join_two _ _ hbn, if_neg (M.clean_ne _), M.clean_head (by simp)]
      have e : a ++ [47] ++ 47 :: b = a ++ 47 :: 47 :: b := by simp
      rw [e, M.clean_in_slash]

set_option maxHeartbeats 400000 in
theorem law_FnDirBase (s : ByteArray) (w : World) (hs : s.size ≤ 140737488351232) : Calls Try.prog 13 #[.string s] w fun e w' => e = .returned (.bool true) ∧ Below w.heap.size w w' := by
  cases hb : trailed s.data.toList with
  | true =>
    have HT := Lib.hid hb
    clear hb
    go_enter Try.func13, Try.ntmps13
    go_wp2_with fail
    refine (spec_Trailed_is s true _ (by omega) HT.out).mono ?_
    rintro e w' ⟨rfl, rfl⟩
    go_wp2
    go_ret
    exact ⟨rfl, Below.refl _ _⟩
  | false =>
    obtain ⟨d, hd⟩ : ∃ d, S (dir s.data.toList) = d := ⟨_, rfl⟩
    obtain ⟨b, hbs⟩ : ∃ b, S (base s.data.toList) = b := ⟨_, rfl⟩
    obtain ⟨z, hz⟩ : ∃ z, S (clean s.data.toList) = z := ⟨_, rfl⟩
    have hj : S (Pa.join [d.data.toList, b.data.toList]) = z := by rw [lst hd, lst hbs, dir_base hb, hz]
    have zE := isEmpty_of_pos (s := z) (by rw [← hz, S_size]; exact List.length_pos_iff.2 (M.clean_ne _))
    have hdz : d.size ≤ 140737488351233 := by
      have := dir_le s.data.toList
      rw [← hd, S_size]; rw [← Lib.size_eq] at this; omega
    have hbz : b.size ≤ 140737488351233 := by
      have := base_le s.data.toList
      rw [← hbs, S_size]; rw [← Lib.size_eq] at this; omega
    have HT := Lib.hid hb
    have HD := Lib.hid hd
    have HBS := Lib.hid hbs
    have HZ := Lib.hid hz
    have HJ := Lib.hid hj
    clear hb hd hbs hz hj
    go_enter Try.func13, Try.ntmps13
    go_wp2_with fail
    refine (spec_Trailed_is s false _ (by omega) HT.out).mono ?_
    rintro e w' ⟨rfl, rfl⟩
    go_wp2_with fail
    refine (impl_Dir s d _ (by omega) HD.out).mono ?_
    rintro e w1 ⟨rfl, hb1⟩
    have HB1 := Lib.hid hb1
    clear hb1
    go_wp2_with fail
    refine (impl_Base s b _ (by omega) HBS.out).mono ?_
    rintro e w' ⟨rfl, rfl⟩
    go_wp2_with fail
    refine (join2 d b z _ (by omega) HJ.out).mono ?_
    rintro e w2 ⟨rfl, hb2⟩
    have HB2 := Lib.hid (below_step HB1.out hb2)
    clear hb2 HB1
    go_wp2_with fail
    refine (impl_Clean s z _ (by omega) HZ.out).mono ?_
    rintro e w3 ⟨rfl, hb3⟩
    have HB3 := Lib.hid (below_step HB2.out hb3)
    clear hb3
    go_wp2
    go_ret
    exact ⟨by simp, HB3.out⟩

end Go.Proofs.Ytedaekkpnjcojaa
