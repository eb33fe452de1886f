/-
  The walks of FnCleanTwice, FnCleanShorter, FnCleanHead, FnCleanTail, FnRootUp, FnCleanInside.
-/
import Derived.Test.YtodfjjkjkkpkhaaCleanC
namespace Go.Proofs.Ytodfjjkjkkpkhaa
open Go.RowKit Go.Lib
open Go.Lib.Pa (clean isAbs split ext base dir)

theorem clean_size {s r : ByteArray} (h : S (clean s.data.toList) = r) : r.size ≤ s.size + 1 := by
  rw [← h, S_size, Lib.size_eq]; exact M.clean_len_le _
theorem clean_pos {l : List UInt8} {r : ByteArray} (h : S (clean l) = r) : 0 < r.size := by
  rw [← h, S_size]; exact List.length_pos_iff.2 (M.clean_ne l)
theorem clean_back {l : List UInt8} {r : ByteArray} (h : S (clean l) = r) : S (clean r.data.toList) = r := by
  rw [← h, S_toList, M.clean_clean]
theorem list_of {l : List UInt8} {r : ByteArray} (h : S l = r) : r.data.toList = l := by rw [← h, S_toList]
theorem is_of (r : ByteArray) (c : List UInt8) : (r.toList == c) = decide (r.data.toList = c) := by
  rw [Lib.toList_data, Bool.eq_iff_iff]; simp
theorem ne_nil_of {s : ByteArray} (h : 0 < s.size) : s.data.toList ≠ [] := by
  intro e
  rw [Lib.size_eq, e] at h
  simp at h

theorem law_FnCleanTwice (s : ByteArray) (w : World) (hs : s.size ≤ 140737488351232) : Calls Try.prog 10 #[.string s] w fun e w' => e = .returned (.bool true) ∧ Below w.heap.size w w' := by
  obtain ⟨r, hr⟩ : ∃ r, S (clean s.data.toList) = r := ⟨_, rfl⟩
  have hz := clean_size hr
  have rE := isEmpty_of_pos (clean_pos hr)
  have HRR := Lib.hid (clean_back hr)
  have HR := Lib.hid hr
  clear hr
  go_enter Try.func10, Try.ntmps10
  go_wp2_with fail
  refine (impl_Clean s r _ (by omega) HR.out).mono ?_
  rintro e w1 ⟨rfl, hb1⟩
  have HB1 := Lib.hid hb1
  clear hb1
  go_wp2_with fail
  refine (impl_Clean r r _ (by omega) HRR.out).mono ?_
  rintro e w2 ⟨rfl, hb2⟩
  have HB2 := Lib.hid (below_step HB1.out hb2)
  clear hb2
  go_wp2
  go_ret
  exact ⟨by simp, HB2.out⟩

theorem law_FnCleanShorter (s : ByteArray) (w : World) (hs : s.size ≤ 140737488351232) : Calls Try.prog 8 #[.string s] w fun e w' => e = .returned (.bool true) ∧ Below w.heap.size w w' := by
  obtain ⟨r, hr⟩ : ∃ r, S (clean s.data.toList) = r := ⟨_, rfl⟩
  have hz := clean_size hr
  have rE := isEmpty_of_pos (clean_pos hr)
  obtain ⟨q, hq⟩ : ∃ q, M.ro s.data.toList = q := ⟨_, rfl⟩
  have hq2 : M.ro r.data.toList = q := by rw [list_of hr, M.ro_clean, hq]
  have HQ := Lib.hid hq
  have HQ2 := Lib.hid hq2
  by_cases h0 : 0 < s.size
  · have hle : r.size ≤ s.size := by
      rw [← hr, S_size, Lib.size_eq]; exact M.clean_len (ne_nil_of h0)
    have hd : decide (r.size ≤ s.size) = true := by simp; omega
    have HR := Lib.hid hr
    clear hr hq hq2
    go_enter Try.func8, Try.ntmps8
    go_wp2_with fail
    refine (impl_Clean s r _ (by omega) HR.out).mono ?_
    rintro e w1 ⟨rfl, hb1⟩
    have HB1 := Lib.hid hb1
    clear hb1
    go_wp2_with fail
    refine (spec_Rooted_is r q _ (by omega) HQ2.out).mono ?_
    rintro e w' ⟨rfl, rfl⟩
    go_wp2_with fail
    refine (spec_Rooted_is s q _ (by omega) HQ.out).mono ?_
    rintro e w' ⟨rfl, rfl⟩
    go_wp2
    go_ret
    exact ⟨by simp, HB1.out⟩
  · have sE := isEmpty_of_size (s := s) (by omega)
    have hr1 : r = ⟨#[46]⟩ := by rw [← hr, Pa.nil_of_size s h0]; rfl
    have u1 : (r.toList == [46]) = true := by rw [is_of, hr1]; decide
    have hrz : r.size = 1 := by rw [hr1]; rfl
    have hd : decide (r.size ≤ s.size) = false := by simp; omega
    have hd2 : ¬ r.size ≤ s.size := by omega
    have HR := Lib.hid hr
    clear hr hq hq2 hr1 hrz
    go_enter Try.func8, Try.ntmps8
    go_wp2_with fail
    refine (impl_Clean s r _ (by omega) HR.out).mono ?_
    rintro e w1 ⟨rfl, hb1⟩
    have HB1 := Lib.hid hb1
    clear hb1
    go_wp2_with fail
    refine (spec_Rooted_is r q _ (by omega) HQ2.out).mono ?_
    rintro e w' ⟨rfl, rfl⟩
    go_wp2_with fail
    refine (spec_Rooted_is s q _ (by omega) HQ.out).mono ?_
    rintro e w' ⟨rfl, rfl⟩
    go_wp2
    go_ret
    exact ⟨by simp, HB1.out⟩

theorem sl_list (a b : ByteArray) : (a ++ ⟨#[47]⟩ ++ b).data.toList = a.data.toList ++ 47 :: b.data.toList := by
  rw [app_list, app_list, List.append_assoc]; rfl
theorem sl_size (a b : ByteArray) : (a ++ ⟨#[47]⟩ ++ b).size = a.size + 1 + b.size := by
  rw [app_size, app_size]; rfl

theorem law_FnCleanHead (a b : ByteArray) (w : World) (ha : a.size ≤ 140737488351232) (hb : b.size ≤ 140737488351232) : Calls Try.prog 6 #[.string a, .string b] w fun e w' => e = .returned (.bool true) ∧ Below w.heap.size w w' := by
  by_cases h0 : 0 < a.size
  · have aE := isEmpty_of_pos h0
    have hne := ne_nil_of h0
    obtain ⟨r, hr⟩ : ∃ r, S (clean a.data.toList) = r := ⟨_, rfl⟩
    obtain ⟨z, hz⟩ : ∃ z, S (clean (a ++ ⟨#[47]⟩ ++ b).data.toList) = z := ⟨_, rfl⟩
    have hz2 : S (clean (r ++ ⟨#[47]⟩ ++ b).data.toList) = z := by
      rw [← hz, sl_list, sl_list, list_of hr, M.clean_head hne]
    have hrs : r.size ≤ a.size := by rw [← hr, S_size, Lib.size_eq]; exact M.clean_len hne
    have zE := isEmpty_of_pos (clean_pos hz)
    have s1 : (a ++ ⟨#[47]⟩ ++ b).size ≤ 281474976710656 := by rw [sl_size]; omega
    have s2 : (r ++ ⟨#[47]⟩ ++ b).size ≤ 281474976710656 := by rw [sl_size]; omega
    have HS1 := Lib.hid s1
    have HS2 := Lib.hid s2
    have HR := Lib.hid hr
    have HZ := Lib.hid hz
    have HZ2 := Lib.hid hz2
    clear hr hz hz2 hne s1 s2
    go_enter Try.func6, Try.ntmps6
    go_wp2_with fail
    refine (impl_Clean _ z _ HS1.out HZ.out).mono ?_
    rintro e w1 ⟨rfl, hb1⟩
    have HB1 := Lib.hid hb1
    clear hb1
    go_wp2_with fail
    refine (impl_Clean a r _ (by omega) HR.out).mono ?_
    rintro e w2 ⟨rfl, hb2⟩
    have HB2 := Lib.hid (below_step HB1.out hb2)
    clear hb2
    go_wp2_with fail
    refine (impl_Clean _ z _ HS2.out HZ2.out).mono ?_
    rintro e w3 ⟨rfl, hb3⟩
    have HB3 := Lib.hid (below_step HB2.out hb3)
    clear hb3
    go_wp2
    go_ret
    exact ⟨by simp, HB3.out⟩
  · have aE := isEmpty_of_size (s := a) (by omega)
    go_enter Try.func6, Try.ntmps6
    go_wp2
    go_ret
    exact ⟨rfl, Below.refl _ _⟩

/-- a with k slashes behind it -/
theorem tail_snoc (a : ByteArray) (k : Nat) : S (a.data.toList ++ List.replicate k 47) ++ ⟨#[47]⟩ = S (a.data.toList ++ List.replicate (k + 1) 47) := by
  rw [← S_data (S _ ++ ⟨#[47]⟩), app_list, S_toList, List.replicate_succ', ← List.append_assoc]
theorem tail_size (a : ByteArray) (k : Nat) : (S (a.data.toList ++ List.replicate k 47)).size = a.size + k := by
  rw [S_size, List.length_append, List.length_replicate, Lib.size_eq]

set_option maxHeartbeats 400000 in
theorem law_FnCleanTail (a : ByteArray) (n : Int) (w : World) (ha : a.size ≤ 140737488351232) (hn : (Lit.int .i64 n).wf = true) : Calls Try.prog 9 #[.string a, .int .i64 n] w fun e w' => e = .returned (.bool true) ∧ Below w.heap.size w w' := by
  by_cases h0 : 0 < a.size
  · have aE := isEmpty_of_pos h0
    by_cases h1 : n < 0
    · go_enter Try.func9, Try.ntmps9
      go_wp2
      go_ret
      exact ⟨rfl, Below.refl _ _⟩
    · by_cases h2 : 100 < n
      · go_enter Try.func9, Try.ntmps9
        go_wp2
        go_ret
        exact ⟨rfl, Below.refl _ _⟩
      · obtain ⟨m, rfl⟩ := Int.eq_ofNat_of_zero_le (show 0 ≤ n by omega)
        have hne := ne_nil_of h0
        have hm : m ≤ 100 := by omega
        obtain ⟨r, hr⟩ : ∃ r, S (clean a.data.toList) = r := ⟨_, rfl⟩
        obtain ⟨z, hz⟩ : ∃ z, S (a.data.toList ++ List.replicate m 47) = z := ⟨_, rfl⟩
        have hzr : S (clean z.data.toList) = r := by rw [list_of hz, M.clean_tail hne, hr]
        have hzs : z.size ≤ 140737488351332 := by rw [← hz, tail_size]; omega
        have rE := isEmpty_of_pos (clean_pos hr)
        have b1 : decide ((m : Int) < 0) = false := by simp
        have b2 : decide ((100 : Int) < (m : Int)) = false := by simp; omega
        have HR := Lib.hid hr
        have HZ := Lib.hid hz
        have HZR := Lib.hid hzr
        clear hr hz hzr hne h1 h2 hn
        go_enter Try.func9, Try.ntmps9
        go_wp2_with fail
        go_loop [5, 6] (fun s i => ∃ (k : Nat) (T : ByteArray), k ≤ m ∧ i = .int .i64 k ∧ s = .string T ∧ Hid (T = S (a.data.toList ++ List.replicate k 47))) (fun _ i => m - (RowKit.intOf i).toNat)
        case atStart => exact ⟨0, a, Nat.zero_le _, rfl, rfl, by show _ = _; rw [List.replicate_zero, List.append_nil, S_data]⟩
        case round =>
          obtain ⟨k, T, hk, rfl, rfl, hT⟩ := hrel
          have hTs : T.size = a.size + k := by rw [hT.out, tail_size]
          have hTb : T.size ≤ 140737488351332 := by omega
          clear hTs
          by_cases hlt : k < m
          · go_wp2
            go_round
            case rel => exact ⟨k + 1, T ++ ⟨#[47]⟩, by omega, by go_num, rfl, by show _ = _; rw [hT.out]; exact tail_snoc a k⟩
            case measure => simp [RowKit.intOf]; omega
          · have hkm : k = m := by omega
            have hTz : T = z := by rw [hT.out, hkm, HZ.out]
            have HTZ := Lib.hid (show S (clean T.data.toList) = r by rw [hTz]; exact HZR.out)
            clear hkm hTz
            go_wp2_with fail
            refine (impl_Clean a r _ (by omega) HR.out).mono ?_
            rintro e w1 ⟨rfl, hb1⟩
            have HB1 := Lib.hid hb1
            clear hb1
            go_wp2_with fail
            refine (impl_Clean T r _ (by omega) HTZ.out).mono ?_
            rintro e w2 ⟨rfl, hb2⟩
            have HB2 := Lib.hid (below_step HB1.out hb2)
            clear hb2
            go_wp2
            go_ret
            exact ⟨by simp, HB2.out⟩
  · have aE := isEmpty_of_size (s := a) (by omega)
    go_enter Try.func9, Try.ntmps9
    go_wp2
    go_ret
    exact ⟨rfl, Below.refl _ _⟩

theorem ups_snoc (k : Nat) : S (M.ups k) ++ ⟨#[46, 46, 47]⟩ = S (M.ups (k + 1)) := by
  rw [← S_data (S _ ++ _), app_list, S_toList]; rfl
theorem ups_len : ∀ k, (M.ups k).length = 1 + 3 * k
  | 0 => rfl
  | k + 1 => by rw [M.ups, List.length_append, ups_len k]; simp; omega

set_option maxHeartbeats 400000 in
theorem law_FnRootUp (a : ByteArray) (n : Int) (w : World) (ha : a.size ≤ 140737488351232) (hn : (Lit.int .i64 n).wf = true) : Calls Try.prog 11 #[.string a, .int .i64 n] w fun e w' => e = .returned (.bool true) ∧ Below w.heap.size w w' := by
  by_cases h1 : n < 0
  · go_enter Try.func11, Try.ntmps11
    go_wp2
    go_ret
    exact ⟨rfl, Below.refl _ _⟩
  · by_cases h2 : 100 < n
    · go_enter Try.func11, Try.ntmps11
      go_wp2
      go_ret
      exact ⟨rfl, Below.refl _ _⟩
    · obtain ⟨m, rfl⟩ := Int.eq_ofNat_of_zero_le (show 0 ≤ n by omega)
      have hm : m ≤ 100 := by omega
      obtain ⟨r, hr⟩ : ∃ r, S (clean (⟨#[47]⟩ ++ a).data.toList) = r := ⟨_, rfl⟩
      have hr1 : (⟨#[47]⟩ ++ a).data.toList = 47 :: a.data.toList := by rw [app_list]; rfl
      have hzr : S (clean (S (M.ups m) ++ a).data.toList) = r := by rw [app_list, S_toList, M.clean_ups, ← hr, hr1]
      have hs1 : (⟨#[47]⟩ ++ a).size ≤ 281474976710656 := by rw [app_size]; show 1 + a.size ≤ _; omega
      have hs2 : (S (M.ups m) ++ a).size ≤ 281474976710656 := by rw [app_size, S_size, ups_len]; omega
      have rE := isEmpty_of_pos (clean_pos hr)
      have b1 : decide ((m : Int) < 0) = false := by simp
      have b2 : decide ((100 : Int) < (m : Int)) = false := by simp; omega
      have HR := Lib.hid hr
      have HZR := Lib.hid hzr
      have HS1 := Lib.hid hs1
      have HS2 := Lib.hid hs2
      clear hr hr1 hzr h1 h2 hn hs1 hs2
      go_enter Try.func11, Try.ntmps11
      go_wp2_with fail
      go_loop [5, 6] (fun s i => ∃ (k : Nat) (T : ByteArray), k ≤ m ∧ i = .int .i64 k ∧ s = .string T ∧ Hid (T = S (M.ups k))) (fun _ i => m - (RowKit.intOf i).toNat)
      case atStart => exact ⟨0, ⟨#[47]⟩, Nat.zero_le _, rfl, rfl, by show _ = _; rfl⟩
      case round =>
        obtain ⟨k, T, hk, rfl, rfl, hT⟩ := hrel
        have hTs : T.size = 1 + 3 * k := by rw [hT.out, S_size, ups_len]
        have hTb : T.size ≤ 301 := by omega
        clear hTs
        by_cases hlt : k < m
        · go_wp2
          go_round
          case rel => exact ⟨k + 1, T ++ ⟨#[46, 46, 47]⟩, by omega, by go_num, rfl, by show _ = _; rw [hT.out]; exact ups_snoc k⟩
          case measure => simp [RowKit.intOf]; omega
        · have hkm : k = m := by omega
          have hTz : T = S (M.ups m) := by rw [hT.out, hkm]
          have HTZ := Lib.hid (show S (clean (T ++ a).data.toList) = r by rw [hTz]; exact HZR.out)
          have HTS := Lib.hid (show (T ++ a).size ≤ 281474976710656 by rw [hTz]; exact HS2.out)
          clear hkm hTz
          go_wp2_with fail
          refine (impl_Clean _ r _ HS1.out HR.out).mono ?_
          rintro e w1 ⟨rfl, hb1⟩
          have HB1 := Lib.hid hb1
          clear hb1
          go_wp2_with fail
          refine (impl_Clean (T ++ a) r _ HTS.out HTZ.out).mono ?_
          rintro e w2 ⟨rfl, hb2⟩
          have HB2 := Lib.hid (below_step HB1.out hb2)
          clear hb2
          go_wp2
          go_ret
          exact ⟨by simp, HB2.out⟩

end Go.Proofs.Ytodfjjkjkkpkhaa
