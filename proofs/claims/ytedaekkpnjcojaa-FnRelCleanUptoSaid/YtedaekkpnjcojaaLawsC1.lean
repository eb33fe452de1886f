/-
  The walks of FnDirClean, FnJoinTwo, FnAbsKept, FnDirBase.
-/
import Derived.Test.YtedaekkpnjcojaaJoin
import Derived.Test.YtedaekkpnjcojaaJoinLaw
import Derived.Test.YtedaekkpnjcojaaBaseC
namespace Go.Proofs.Ytedaekkpnjcojaa
open Go.RowKit Go.Lib
open Go.Lib.Pa (clean isAbs split ext base dir els)

theorem impl_Split (s d f : ByteArray) (w : World) (hs : s.size ≤ 9223372036854775807) (hd : S (split s.data.toList).1 = d) (hf : S (split s.data.toList).2 = f) :
    Calls Try.prog 27 #[.string s] w fun e w' => e = .returned (.tuple #[.string d, .string f]) ∧ ∃ n, w' = w.drewN n := by
  have h := fun W => Try.filepath_Split s W hs
  have HH := Lib.hid h
  have HD := Lib.hid hd
  have HF := Lib.hid hf
  clear h hd hf
  go_enter Try.func27, Try.ntmps27
  go_wp2_with fail
  refine (HH.out _).mono ?_
  rintro e w' ⟨rfl, n, rfl⟩
  rw [show (⟨(split s.data.toList).1.toArray⟩ : ByteArray) = d from HD.out, show (⟨(split s.data.toList).2.toArray⟩ : ByteArray) = f from HF.out]
  go_wp2
  try go_quiet (fail)
  try go_wp2
  go_ret2
  first | exact ⟨rfl, n, rfl⟩ | exact ⟨rfl, _, rfl⟩

theorem impl_IsAbs_is (s : ByteArray) (b : Bool) (w : World) (hb : M.ro s.data.toList = b) : Calls Try.prog 28 #[.string s] w fun e w' => e = .returned (.bool b) ∧ w = w' := by
  subst hb; exact impl_IsAbs s w
theorem lst {l : List UInt8} {r : ByteArray} (h : S l = r) : r.data.toList = l := by rw [← h, S_toList]
theorem ne_nil_of {s : ByteArray} (h : 0 < s.size) : s.data.toList ≠ [] := by
  intro e
  rw [Lib.size_eq, e] at h
  simp at h

theorem split_sizes (l : List UInt8) : (split l).1.length ≤ l.length ∧ (split l).2.length ≤ l.length := by
  unfold split
  constructor
  · exact List.length_take_le' _ _
  · rw [List.length_drop]; omega
theorem ro_dir (l : List UInt8) : M.ro (dir l) = M.ro l := by
  unfold dir
  rw [M.ro_clean]
  rcases M.cut_last 47 l with h | ⟨a, b, rfl, hb⟩
  · rw [M.split_free h]
    cases l with
    | nil => rfl
    | cons c t =>
      have : c ≠ 47 := fun e => h (by simp [e])
      unfold M.ro
      simp [this]
  · rw [M.split_mk hb]
    cases a <;> rfl

set_option maxHeartbeats 400000 in
theorem law_FnDirClean (s : ByteArray) (w : World) (hs : s.size ≤ 140737488351232) : Calls Try.prog 6 #[.string s] w fun e w' => e = .returned (.bool true) ∧ Below w.heap.size w w' := by
  obtain ⟨d, hd⟩ : ∃ d, S (dir s.data.toList) = d := ⟨_, rfl⟩
  have hdz : d.size ≤ 140737488351233 := by
    have := dir_le s.data.toList
    rw [← hd, S_size]; rw [← Lib.size_eq] at this; omega
  have dE := isEmpty_of_pos (s := d) (by rw [← hd, S_size]; exact List.length_pos_iff.2 (M.clean_ne _))
  have hdc : S (clean d.data.toList) = d := by rw [lst hd]; unfold dir; rw [M.clean_clean]; exact hd
  obtain ⟨q, hq⟩ : ∃ q, M.ro s.data.toList = q := ⟨_, rfl⟩
  have hq2 : M.ro d.data.toList = q := by rw [lst hd, ro_dir, hq]
  obtain ⟨h, hh⟩ : ∃ h, S (split s.data.toList).1 = h := ⟨_, rfl⟩
  obtain ⟨fl, hf⟩ : ∃ fl, S (split s.data.toList).2 = fl := ⟨_, rfl⟩
  have hhd : S (clean h.data.toList) = d := by rw [lst hh]; exact hd
  have hhz : h.size ≤ 140737488351232 := by
    have := (split_sizes s.data.toList).1
    rw [← hh, S_size]; rw [Lib.size_eq] at hs; omega
  have HD := Lib.hid hd
  have HDC := Lib.hid hdc
  have HQ := Lib.hid hq
  have HQ2 := Lib.hid hq2
  have HH := Lib.hid hh
  have HF := Lib.hid hf
  have HHD := Lib.hid hhd
  clear hd hdc hq hq2 hh hf hhd
  cases hb : trailed s.data.toList with
  | true =>
    have HT := Lib.hid hb
    clear hb
    go_enter Try.func6, Try.ntmps6
    go_wp2_with fail
    refine (impl_Dir s d _ (by omega) HD.out).mono ?_
    rintro e w1 ⟨rfl, hb1⟩
    have HB1 := Lib.hid hb1
    clear hb1
    go_wp2_with fail
    refine (spec_Trailed_is s true _ (by omega) HT.out).mono ?_
    rintro e w' ⟨rfl, rfl⟩
    go_wp2_with fail
    refine (impl_Clean d d _ (by omega) HDC.out).mono ?_
    rintro e w2 ⟨rfl, hb2⟩
    have HB2 := Lib.hid (below_step HB1.out hb2)
    clear hb2
    go_wp2_with fail
    refine (impl_IsAbs_is d q _ HQ2.out).mono ?_
    rintro e w' ⟨rfl, rfl⟩
    go_wp2_with fail
    refine (spec_Rooted_is s q _ (by omega) HQ.out).mono ?_
    rintro e w' ⟨rfl, rfl⟩
    go_wp2
    go_ret
    exact ⟨by simp, HB2.out⟩
  | false =>
    have HT := Lib.hid hb
    clear hb
    go_enter Try.func6, Try.ntmps6
    go_wp2_with fail
    refine (impl_Dir s d _ (by omega) HD.out).mono ?_
    rintro e w1 ⟨rfl, hb1⟩
    have HB1 := Lib.hid hb1
    clear hb1
    go_wp2_with fail
    refine (spec_Trailed_is s false _ (by omega) HT.out).mono ?_
    rintro e w' ⟨rfl, rfl⟩
    go_wp2_with fail
    refine (impl_Split s h fl _ (by omega) HH.out HF.out).mono ?_
    rintro e w' ⟨rfl, n, rfl⟩
    have hbn := below_drewN HB1.out n
    generalize w1.drewN n = w3 at hbn ⊢
    have HB3 := Lib.hid hbn
    clear hbn
    go_wp2_with fail
    refine (impl_Clean h d _ (by omega) HHD.out).mono ?_
    rintro e w4 ⟨rfl, hb4⟩
    have HB4 := Lib.hid (below_step HB3.out hb4)
    clear hb4
    go_wp2_with fail
    refine (impl_Clean d d _ (by omega) HDC.out).mono ?_
    rintro e w2 ⟨rfl, hb2⟩
    have HB2 := Lib.hid (below_step HB4.out hb2)
    clear hb2
    go_wp2_with fail
    refine (impl_IsAbs_is d q _ HQ2.out).mono ?_
    rintro e w' ⟨rfl, rfl⟩
    go_wp2_with fail
    refine (spec_Rooted_is s q _ (by omega) HQ.out).mono ?_
    rintro e w' ⟨rfl, rfl⟩
    go_wp2
    go_ret
    exact ⟨by simp, HB2.out⟩

theorem lens2 (a b : ByteArray) : Lib.lens [a.data.toList, b.data.toList] = a.size + b.size := by
  rw [Lib.size_eq, Lib.size_eq]
  show a.data.toList.length + (b.data.toList.length + 0) = _
  omega
theorem lens1 (a : ByteArray) : Lib.lens [a.data.toList] = a.size := by
  rw [Lib.size_eq]
  show a.data.toList.length + 0 = _
  omega
/-- impl.Join of two texts in a slice just made -/
theorem join2 (a b r : ByteArray) (w : World) (hz : a.size + b.size + 2 ≤ 281474976710656) (hr : S (Pa.join [a.data.toList, b.data.toList]) = r) :
    Calls Try.prog 18 #[.slice (some ⟨w.heap.size, 0, none⟩) 2 2] (w.alloc (.cells #[.string a, .string b] 9)) fun e w' => e = .returned (.string r) ∧ Below w.heap.size w w' :=
  (impl_Join _ [a.data.toList, b.data.toList] r _ (Rd_two w a b) (by simp) (by rw [lens2]; simpa using hz) hr).mono fun _ _ ⟨he, hb⟩ => ⟨he, ((Below.refl _ _).alloc (Nat.le_refl _) _).trans (hb.mono (by simp))⟩
theorem join1 (a r : ByteArray) (w : World) (hz : a.size + 1 ≤ 281474976710656) (hr : S (Pa.join [a.data.toList]) = r) :
    Calls Try.prog 18 #[.slice (some ⟨w.heap.size, 0, none⟩) 1 1] (w.alloc (.cells #[.string a] 9)) fun e w' => e = .returned (.string r) ∧ Below w.heap.size w w' :=
  (impl_Join _ [a.data.toList] r _ (Rd_one w a) (by simp) (by rw [lens1]; simpa using hz) hr).mono fun _ _ ⟨he, hb⟩ => ⟨he, ((Below.refl _ _).alloc (Nat.le_refl _) _).trans (hb.mono (by simp))⟩

theorem join_right_nil (a : List UInt8) : Pa.join [a, []] = Pa.join [a] := by
  unfold Pa.join; by_cases h : a = [] <;> simp [h]
theorem join_left_nil (b : List UInt8) : Pa.join [[], b] = Pa.join [b] := by
  unfold Pa.join; by_cases h : b = [] <;> simp [h]

set_option maxHeartbeats 800000 in
theorem law_FnJoinTwo (a b : ByteArray) (w : World) (ha : a.size ≤ 140737488351232) (hb : b.size ≤ 140737488351232) : Calls Try.prog 9 #[.string a, .string b] w fun e w' => e = .returned (.bool true) ∧ Below w.heap.size w w' := by
  obtain ⟨ra, hra⟩ : ∃ ra, S (Pa.join [a.data.toList]) = ra := ⟨_, rfl⟩
  obtain ⟨rb, hrb⟩ : ∃ rb, S (Pa.join [b.data.toList]) = rb := ⟨_, rfl⟩
  have hra2 : S (Pa.join [a.data.toList, (⟨#[]⟩ : ByteArray).data.toList]) = ra := by rw [← hra]; exact congrArg S (join_right_nil _)
  have hrb2 : S (Pa.join [(⟨#[]⟩ : ByteArray).data.toList, b.data.toList]) = rb := by rw [← hrb]; exact congrArg S (join_left_nil _)
  have hnl : ∀ W, Calls Try.prog 18 #[.slice none 0 0] W fun e w' => e = .returned (.string ⟨#[]⟩) ∧ Below W.heap.size W w' := fun W =>
    impl_Join _ [] ⟨#[]⟩ W ⟨none, 0, rfl, Nat.le_refl _, Reads.none_⟩ (by simp) (by decide) rfl
  have HRA := Lib.hid hra
  have HRB := Lib.hid hrb
  have HRA2 := Lib.hid hra2
  have HRB2 := Lib.hid hrb2
  have HNL := Lib.hid hnl
  clear hra hrb hra2 hrb2 hnl
  by_cases hab : 0 < a.size ∧ 0 < b.size
  · obtain ⟨a0, b0⟩ := hab
    have aE := isEmpty_of_pos a0
    have bE := isEmpty_of_pos b0
    have na := ne_nil_of a0
    have nb := ne_nil_of b0
    obtain ⟨z, hz⟩ : ∃ z, S (clean (a ++ ⟨#[47]⟩ ++ b).data.toList) = z := ⟨_, rfl⟩
    have hl : (a ++ ⟨#[47]⟩ ++ b).data.toList = a.data.toList ++ 47 :: b.data.toList := by rw [app_list, app_list, List.append_assoc]; rfl
    have hz2 : S (Pa.join [a.data.toList, b.data.toList]) = z := by rw [M.join_two _ _ nb, if_neg na, ← hz, hl]
    have hs : (a ++ ⟨#[47]⟩ ++ b).size ≤ 281474976710656 := by rw [app_size, app_size]; show a.size + 1 + b.size ≤ _; omega
    have zE := isEmpty_of_pos (s := z) (by rw [← hz, S_size]; exact List.length_pos_iff.2 (M.clean_ne _))
    have HZ := Lib.hid hz
    have HZ2 := Lib.hid hz2
    have HS := Lib.hid hs
    clear hz hz2 hs hl na nb
    go_enter Try.func9, Try.ntmps9
    go_wp2_with fail
    refine (join2 a ⟨#[]⟩ ra _ (by show a.size + 0 + 2 ≤ _; omega) HRA2.out).mono ?_
    rintro e w1 ⟨rfl, hb1⟩
    have HB1 := Lib.hid hb1
    clear hb1
    go_wp2_with fail
    refine (join1 a ra _ (by omega) HRA.out).mono ?_
    rintro e w2 ⟨rfl, hb2⟩
    have HB2 := Lib.hid (below_step HB1.out hb2)
    clear hb2 HB1
    go_wp2_with fail
    refine (join2 ⟨#[]⟩ b rb _ (by show 0 + b.size + 2 ≤ _; omega) HRB2.out).mono ?_
    rintro e w3 ⟨rfl, hb3⟩
    have HB3 := Lib.hid (below_step HB2.out hb3)
    clear hb3 HB2
    go_wp2_with fail
    refine (join1 b rb _ (by omega) HRB.out).mono ?_
    rintro e w4 ⟨rfl, hb4⟩
    have HB4 := Lib.hid (below_step HB3.out hb4)
    clear hb4 HB3
    go_wp2_with fail
    refine (HNL.out _).mono ?_
    rintro e w5 ⟨rfl, hb5⟩
    have HB5 := Lib.hid (below_step HB4.out hb5)
    clear hb5 HB4
    go_wp2_with fail
    refine (join2 a b z _ (by omega) HZ2.out).mono ?_
    rintro e w6 ⟨rfl, hb6⟩
    have HB6 := Lib.hid (below_step HB5.out hb6)
    clear hb6 HB5
    go_wp2_with fail
    refine (impl_Clean _ z _ HS.out HZ.out).mono ?_
    rintro e w7 ⟨rfl, hb7⟩
    have HB7 := Lib.hid (below_step HB6.out hb7)
    clear hb7 HB6
    go_wp2
    go_ret
    exact ⟨by simp, HB7.out⟩
  · have hEE : (a.toList.isEmpty = true) ∨ (a.toList.isEmpty = false ∧ b.toList.isEmpty = true) := by
      by_cases a0 : 0 < a.size
      · exact .inr ⟨isEmpty_of_pos a0, isEmpty_of_size (by omega)⟩
      · exact .inl (isEmpty_of_size (by omega))
    clear hab
    rcases hEE with aE | ⟨aE, bE⟩
    all_goals
      go_enter Try.func9, Try.ntmps9
      go_wp2_with fail
      refine (join2 a ⟨#[]⟩ ra _ (by show a.size + 0 + 2 ≤ _; omega) HRA2.out).mono ?_
      rintro e w1 ⟨rfl, hb1⟩
      have HB1 := Lib.hid hb1
      clear hb1
      go_wp2_with fail
      refine (join1 a ra _ (by omega) HRA.out).mono ?_
      rintro e w2 ⟨rfl, hb2⟩
      have HB2 := Lib.hid (below_step HB1.out hb2)
      clear hb2 HB1
      go_wp2_with fail
      refine (join2 ⟨#[]⟩ b rb _ (by show 0 + b.size + 2 ≤ _; omega) HRB2.out).mono ?_
      rintro e w3 ⟨rfl, hb3⟩
      have HB3 := Lib.hid (below_step HB2.out hb3)
      clear hb3 HB2
      go_wp2_with fail
      refine (join1 b rb _ (by omega) HRB.out).mono ?_
      rintro e w4 ⟨rfl, hb4⟩
      have HB4 := Lib.hid (below_step HB3.out hb4)
      clear hb4 HB3
      go_wp2_with fail
      refine (HNL.out _).mono ?_
      rintro e w5 ⟨rfl, hb5⟩
      have HB5 := Lib.hid (below_step HB4.out hb5)
      clear hb5 HB4
      go_wp2_with fail
      refine (join1 ⟨#[97]⟩ ⟨#[97]⟩ _ (by decide) (by decide)).mono ?_
      rintro e w6 ⟨rfl, hb6⟩
      have HB6 := Lib.hid (below_step HB5.out hb6)
      clear hb6 HB5
      go_wp2
      go_ret
      exact ⟨rfl, HB6.out⟩

end Go.Proofs.Ytedaekkpnjcojaa
