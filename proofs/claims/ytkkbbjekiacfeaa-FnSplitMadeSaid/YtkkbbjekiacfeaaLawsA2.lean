/-
  The walks of FnFromSlash, FnToSlash, FnVolumeName, FnSplit, FnSplitBack, FnSplitMade.
-/
import Derived.Test.YtkkbbjekiacfeaaSmall
import Derived.Test.YtkkbbjekiacfeaaParts
import Derived.Below
namespace Go.Proofs.Ytkkbbjekiacfeaa
open Go.RowKit Go.Lib
open Go.Lib.Pa (clean isAbs split ext base dir)

theorem below_drewN' {B : Nat} {a w : World} (h : Below B a w) (n : Nat) : Below B a (w.drewN n) := ⟨h.os, h.tape, h.output, h.size, h.block⟩

theorem impl_FromSlash (s : ByteArray) (w : World) : Calls Try.prog 20 #[.string s] w fun e w' => e = .returned (.string s) ∧ w = w' := by
  go_enter Try.func20, Try.ntmps20
  go_wp2_with (first | (go_at_call 36; refine (Try.filepathlite_FromSlash _ _).mono ?_; rintro e w' ⟨rfl, rfl⟩) | go_in)
  go_ret
  exact ⟨rfl, rfl⟩
theorem impl_ToSlash (s : ByteArray) (w : World) : Calls Try.prog 21 #[.string s] w fun e w' => e = .returned (.string s) ∧ w = w' := by
  go_enter Try.func21, Try.ntmps21
  go_wp2_with (first | go_in)
  go_ret
  exact ⟨rfl, rfl⟩
theorem impl_VolumeName (s : ByteArray) (w : World) : Calls Try.prog 22 #[.string s] w fun e w' => e = .returned (.string ⟨#[]⟩) ∧ w = w' := by
  go_enter Try.func22, Try.ntmps22
  go_wp2_with (first | (go_at_call 38; refine (Try.filepathlite_VolumeName _ _).mono ?_; rintro e w' ⟨rfl, rfl⟩) | go_in)
  go_ret
  exact ⟨rfl, rfl⟩
theorem impl_Split (s d f : ByteArray) (w : World) (hs : s.size ≤ 9223372036854775807) (hd : S (split s.data.toList).1 = d) (hf : S (split s.data.toList).2 = f) :
    Calls Try.prog 23 #[.string s] w fun e w' => e = .returned (.tuple #[.string d, .string f]) ∧ ∃ n, w' = w.drewN n := by
  have h := fun W => Try.filepath_Split s W hs
  have HH := Lib.hid h
  have HD := Lib.hid hd
  have HF := Lib.hid hf
  clear h hd hf
  go_enter Try.func23, Try.ntmps23
  go_wp2_with fail
  refine (HH.out _).mono ?_
  rintro e w' ⟨rfl, n, rfl⟩
  rw [show (⟨(split s.data.toList).1.toArray⟩ : ByteArray) = d from HD.out, show (⟨(split s.data.toList).2.toArray⟩ : ByteArray) = f from HF.out]
  go_wp2
  try go_quiet (fail)
  try go_wp2
  go_ret2
  first | exact ⟨rfl, n, rfl⟩ | exact ⟨rfl, _, rfl⟩

theorem law_FnFromSlash (s : ByteArray) (w : World) (_hs : s.size ≤ 140737488351232) : Calls Try.prog 7 #[.string s] w fun e w' => e = .returned (.bool true) ∧ Below w.heap.size w w' := by
  go_enter Try.func7, Try.ntmps7
  go_wp2_with (go_at_call 20; refine (impl_FromSlash _ _).mono ?_; rintro e w' ⟨rfl, rfl⟩)
  go_ret
  exact ⟨by simp, Below.refl _ _⟩
theorem law_FnToSlash (s : ByteArray) (w : World) (_hs : s.size ≤ 140737488351232) : Calls Try.prog 8 #[.string s] w fun e w' => e = .returned (.bool true) ∧ Below w.heap.size w w' := by
  go_enter Try.func8, Try.ntmps8
  go_wp2_with (go_at_call 21; refine (impl_ToSlash _ _).mono ?_; rintro e w' ⟨rfl, rfl⟩)
  go_ret
  exact ⟨by simp, Below.refl _ _⟩

theorem empty_app (s : ByteArray) : (⟨#[]⟩ : ByteArray) ++ s = s := by
  have h := app_list ⟨#[]⟩ s
  rw [← S_data ((⟨#[]⟩ : ByteArray) ++ s), h]
  exact S_data s

theorem law_FnVolumeName (s : ByteArray) (w : World) (hs : s.size ≤ 140737488351232) : Calls Try.prog 9 #[.string s] w fun e w' => e = .returned (.bool true) ∧ Below w.heap.size w w' := by
  have hE := empty_app s
  go_enter Try.func9, Try.ntmps9
  go_wp2_with fail
  refine (impl_VolumeName s _).mono ?_
  rintro e w' ⟨rfl, rfl⟩
  go_wp2_with fail
  refine (impl_FromSlash s _).mono ?_
  rintro e w' ⟨rfl, rfl⟩
  go_wp2_with fail
  refine (impl_VolumeName s _).mono ?_
  rintro e w' ⟨rfl, rfl⟩
  go_wp2
  go_ret
  exact ⟨by simp, Below.refl _ _⟩

theorem law_FnSplit (s : ByteArray) (w : World) (hs : s.size ≤ 140737488351232) : Calls Try.prog 10 #[.string s] w fun e w' => e = .returned (.bool true) ∧ Below w.heap.size w w' := by
  obtain ⟨d, hd⟩ : ∃ d, S (split s.data.toList).1 = d := ⟨_, rfl⟩
  obtain ⟨f, hf⟩ : ∃ f, S (split s.data.toList).2 = f := ⟨_, rfl⟩
  have HD := Lib.hid hd
  have HF := Lib.hid hf
  clear hd hf
  go_enter Try.func10, Try.ntmps10
  go_wp2_with fail
  refine (impl_Split s d f _ (by omega) HD.out HF.out).mono ?_
  rintro e w' ⟨rfl, n, rfl⟩
  have hb := below_drewN' (Below.refl w.heap.size w) n
  generalize w.drewN n = w1 at hb ⊢
  have HB := Lib.hid hb
  clear hb
  go_wp2_with fail
  refine (spec_Split_is s d f _ (by omega) HD.out HF.out).mono ?_
  rintro e w' ⟨rfl, m, rfl⟩
  go_wp2
  go_ret
  exact ⟨by simp, below_drewN' HB.out m⟩

theorem no47_at (f : ByteArray) (h : 47 ∉ f.data.toList) (k : Nat) (hk : k < f.size) : (((f[k]'hk).toNat : Int) == 47) = false := by
  rw [Pa.beq47]
  simp only [beq_eq_false_iff_ne, ne_eq]
  intro e
  have := Pa.at_eq f k hk
  rw [e] at this
  exact h (List.mem_of_getElem? this)

set_option maxHeartbeats 400000 in
theorem law_FnSplitBack (s : ByteArray) (w : World) (hs : s.size ≤ 140737488351232) : Calls Try.prog 11 #[.string s] w fun e w' => e = .returned (.bool true) ∧ Below w.heap.size w w' := by
  obtain ⟨d, hd⟩ : ∃ d, S (split s.data.toList).1 = d := ⟨_, rfl⟩
  obtain ⟨f, hf⟩ : ∃ f, S (split s.data.toList).2 = f := ⟨_, rfl⟩
  have hfz : f.size ≤ 140737488351232 := by
    have := (split_sizes s.data.toList).2
    rw [← hf, S_size]; rw [Lib.size_eq] at hs; omega
  have hdz : d.size ≤ 140737488351232 := by
    have := (split_sizes s.data.toList).1
    rw [← hd, S_size]; rw [Lib.size_eq] at hs; omega
  have h47 : 47 ∉ f.data.toList := by rw [← hf, S_toList]; exact M.split_snd _
  have hback : d ++ f = s := by
    have h := app_list d f
    rw [← hd, ← hf, S_toList, S_toList, M.split_back] at h
    rw [← hd, ← hf, ← S_data (S _ ++ S _), h, S_data]
  have hlast := M.split_fst s.data.toList
  rw [← S_toList (split s.data.toList).1, hd] at hlast
  have HD := Lib.hid hd
  have HF := Lib.hid hf
  have H4 := Lib.hid (no47_at f h47)
  have HL := Lib.hid hlast
  clear hd hf h47 hlast
  by_cases hd0 : 0 < d.size
  · have dE := isEmpty_of_pos hd0
    have d1 : 1 ≤ d.size := hd0
    have hl : (((d[d.size - 1]'(by omega)).toNat : Int) == 47) = true := by
      rcases HL.out with h | h
      · rw [Lib.size_eq, h] at hd0; simp at hd0
      · rw [← trailed_pos d hd0]; unfold trailed; rw [h]; rfl
    go_enter Try.func11, Try.ntmps11
    go_wp2_with fail
    refine (impl_Split s d f _ (by omega) HD.out HF.out).mono ?_
    rintro e w' ⟨rfl, n, rfl⟩
    have hb := below_drewN' (Below.refl w.heap.size w) n
    generalize w.drewN n = w1 at hb ⊢
    have HB := Lib.hid hb
    clear hb
    go_wp2_with fail
    go_loop [5] (fun i => ∃ k : Nat, k ≤ f.size ∧ i = .int .i64 k) (fun i => f.size - (RowKit.intOf i).toNat)
    case atStart => exact ⟨0, Nat.zero_le _, rfl⟩
    case round =>
      obtain ⟨k, hk, rfl⟩ := hrel
      by_cases hlt : k < f.size
      · have t1 := H4.out k hlt
        go_wp2
        go_round
        case rel => exact ⟨k + 1, by omega, by go_num⟩
        case measure => simp [RowKit.intOf]; omega
      · go_wp2
        go_ret
        exact ⟨by simp, HB.out⟩
  · have dE := isEmpty_of_size (s := d) (by omega)
    go_enter Try.func11, Try.ntmps11
    go_wp2_with fail
    refine (impl_Split s d f _ (by omega) HD.out HF.out).mono ?_
    rintro e w' ⟨rfl, n, rfl⟩
    have hb := below_drewN' (Below.refl w.heap.size w) n
    generalize w.drewN n = w1 at hb ⊢
    have HB := Lib.hid hb
    clear hb
    go_wp2_with fail
    go_loop [5] (fun i => ∃ k : Nat, k ≤ f.size ∧ i = .int .i64 k) (fun i => f.size - (RowKit.intOf i).toNat)
    case atStart => exact ⟨0, Nat.zero_le _, rfl⟩
    case round =>
      obtain ⟨k, hk, rfl⟩ := hrel
      by_cases hlt : k < f.size
      · have t1 := H4.out k hlt
        go_wp2
        go_round
        case rel => exact ⟨k + 1, by omega, by go_num⟩
        case measure => simp [RowKit.intOf]; omega
      · go_wp2
        go_ret
        exact ⟨by simp, HB.out⟩

/-- the first slash of a text, if there is one -/
theorem first47 (f : ByteArray) : (47 ∉ f.data.toList) ∨ ∃ (j : Nat) (h : j < f.size), (((f[j]'h).toNat : Int) == 47) = true ∧ ∀ k (hk : k < f.size), k < j → (((f[k]'hk).toNat : Int) == 47) = false := by
  by_cases h : 47 ∈ f.data.toList
  · right
    have h1 := List.findIdx_lt_length_of_exists (p := (· == (47 : UInt8))) (xs := f.data.toList) ⟨47, h, rfl⟩
    have hsz := Lib.size_eq f
    refine ⟨f.data.toList.findIdx (· == (47 : UInt8)), by omega, ?_, ?_⟩
    · rw [Pa.beq47]
      have := List.findIdx_getElem (p := (· == (47 : UInt8))) (w := h1)
      have e := Pa.at_eq f (f.data.toList.findIdx (· == (47 : UInt8))) (by omega)
      rw [List.getElem?_eq_getElem h1] at e
      have e' := Option.some.inj e
      rw [← e']; exact this
    · intro k hk hkj
      rw [Pa.beq47]
      have := List.not_of_lt_findIdx hkj
      have e := Pa.at_eq f k hk
      rw [List.getElem?_eq_getElem (by omega)] at e
      have e' := Option.some.inj e
      rw [← e']
      simpa using this
  · exact .inl h

set_option maxHeartbeats 400000 in
theorem law_FnSplitMade (d f : ByteArray) (w : World) (hd : d.size ≤ 140737488351232) (hf : f.size ≤ 140737488351232) : Calls Try.prog 12 #[.string d, .string f] w fun e w' => e = .returned (.bool true) ∧ Below w.heap.size w w' := by
  rcases first47 f with h47 | ⟨j, hj, hj1, hj2⟩
  · have hsp : split (d ++ ⟨#[47]⟩ ++ f).data.toList = (d.data.toList ++ [47], f.data.toList) := by
      rw [app_list, app_list]
      show split ((d.data.toList ++ [47]) ++ f.data.toList) = _
      rw [List.append_assoc]
      exact M.split_mk h47
    have hsz : (d ++ ⟨#[47]⟩ ++ f).size ≤ 9223372036854775807 := by
      rw [app_size, app_size]
      show d.size + 1 + f.size ≤ _
      omega
    have e1 : S (split (d ++ ⟨#[47]⟩ ++ f).data.toList).1 = d ++ ⟨#[47]⟩ := by
      rw [hsp, ← S_data (d ++ ⟨#[47]⟩), app_list]
    have e2 : S (split (d ++ ⟨#[47]⟩ ++ f).data.toList).2 = f := by rw [hsp]; exact S_data f
    have hC : ∀ W, Calls Try.prog 23 #[.string (d ++ ⟨#[47]⟩ ++ f)] W fun e w' => e = .returned (.tuple #[.string (d ++ ⟨#[47]⟩), .string f]) ∧ ∃ n, w' = W.drewN n := fun W => impl_Split (d ++ ⟨#[47]⟩ ++ f) (d ++ ⟨#[47]⟩) f W hsz e1 e2
    have HC := Lib.hid hC
    have H4 := Lib.hid (no47_at f h47)
    clear hsp hsz e1 e2 h47 hC
    go_enter Try.func12, Try.ntmps12
    go_wp2_with fail
    go_loop [5] (fun i => ∃ k : Nat, k ≤ f.size ∧ i = .int .i64 k) (fun i => f.size - (RowKit.intOf i).toNat)
    case atStart => exact ⟨0, Nat.zero_le _, rfl⟩
    case round =>
      obtain ⟨k, hk, rfl⟩ := hrel
      by_cases hlt : k < f.size
      · have t1 := H4.out k hlt
        go_wp2
        go_round
        case rel => exact ⟨k + 1, by omega, by go_num⟩
        case measure => simp [RowKit.intOf]; omega
      · go_wp2_with fail
        refine (HC.out _).mono ?_
        rintro e w' ⟨rfl, n, rfl⟩
        have hb := below_drewN' (Below.refl w.heap.size w) n
        generalize w.drewN n = w1 at hb ⊢
        have HB := Lib.hid hb
        clear hb
        go_wp2
        go_ret
        exact ⟨by simp, HB.out⟩
  · have HJ := Lib.hid hj2
    clear hj2
    go_enter Try.func12, Try.ntmps12
    go_wp2_with fail
    go_loop [5] (fun i => ∃ k : Nat, k ≤ j ∧ i = .int .i64 k) (fun i => j - (RowKit.intOf i).toNat)
    case atStart => exact ⟨0, Nat.zero_le _, rfl⟩
    case round =>
      obtain ⟨k, hk, rfl⟩ := hrel
      by_cases hlt : k < j
      · have hkf : k < f.size := by omega
        have t1 := HJ.out k hkf hlt
        go_wp2
        go_round
        case rel => exact ⟨k + 1, by omega, by go_num⟩
        case measure => simp [RowKit.intOf]; omega
      · obtain rfl : j = k := by omega
        go_wp2
        go_ret
        exact ⟨rfl, Below.refl _ _⟩

end Go.Proofs.Ytkkbbjekiacfeaa
