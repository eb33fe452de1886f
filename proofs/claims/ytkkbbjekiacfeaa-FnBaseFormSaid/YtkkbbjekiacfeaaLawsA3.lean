/-
  The contract of spec.Base; the walks of FnBase, FnBaseForm.
-/
import Derived.Test.YtkkbbjekiacfeaaSmall
import Derived.Test.YtkkbbjekiacfeaaParts
import Derived.Test.YtkkbbjekiacfeaaBaseC
namespace Go.Proofs.Ytkkbbjekiacfeaa
open Go.RowKit Go.Lib
open Go.Lib.Pa (clean isAbs split ext base dir)

theorem below_draws {B : Nat} {a w : World} (h : Below B a w) (n : Nat) : Below B a (w.drewN n) := ⟨h.os, h.tape, h.output, h.size, h.block⟩

set_option maxHeartbeats 400000 in
theorem spec_Base (s r : ByteArray) (w : World) (hs : s.size ≤ 9223372036854775807) (hr : S (base s.data.toList) = r) : Calls Try.prog 26 #[.string s] w fun e w' => e = .returned (.string r) ∧ Below w.heap.size w w' := by
  have HR := Lib.hid hr
  clear hr
  by_cases h0 : 0 < s.size
  · have hE := isEmpty_of_pos h0
    have hne : s.data.toList ≠ [] := by
      intro e
      rw [Lib.size_eq, e] at h0
      simp at h0
    have HNE := Lib.hid hne
    clear hne
    go_enter Try.func26, Try.ntmps26
    go_wp2
    go_loop [0] (fun v => ∃ k : Nat, k ≤ s.size ∧ v = .string (s.extract 0 k) ∧ Hid (Pa.trimLen s.data.toList k = Pa.trimLen s.data.toList s.data.toList.length)) (fun v => Pa.strSize v)
    case atStart => exact ⟨s.size, Nat.le_refl _, by rw [Pa.extract_all], by show _ = _; rw [Lib.size_eq]⟩
    case round =>
      obtain ⟨k, hk, rfl, hh⟩ := hrel
      have hts : (s.extract 0 k).size = k := Pa.extract_upto_size s k hk
      have hx1 : (s.extract 0 k).extract 0 (k - 1) = s.extract 0 (k - 1) := Pa.extract_extract s k
      have htl : (s.extract 0 k).data.toList = s.data.toList.take k := Pa.extract_upto_list s k
      cases htr : trailed (s.extract 0 k).data.toList with
      | true =>
        have hk0 : 0 < k := by
          by_cases e : k = 0
          · subst e
            rw [htl] at htr
            simp [trailed] at htr
          · omega
        have hstep : Pa.trimLen s.data.toList k = Pa.trimLen s.data.toList (k - 1) := by
          have h47 := (trailed_pos (s.extract 0 k) (by omega)).symm.trans htr
          have hat : s.data.toList[k - 1]? = some ((s.extract 0 k)[(s.extract 0 k).size - 1]'(by omega)) := by
            rw [← Pa.at_eq, htl, hts, Pa.take_at _ k hk0]
          exact Pa.trimLen_on _ k _ hk0 hat h47
        have c1 : (0 : Int) ≤ (k : Int) - 1 := by omega
        have c2 : (k : Int) - 1 ≤ (k : Int) := by omega
        have HST := Lib.hid hstep
        have HTR := Lib.hid htr
        have HTS := Lib.hid hts
        generalize hgt : s.extract 0 k = t at hts hx1 HTR HTS ⊢
        have HGT := Lib.hid hgt
        clear hstep htr htl hgt
        go_wp2_with fail
        refine (spec_Trailed_is t true _ (by omega) HTR.out).mono ?_
        rintro e w' ⟨rfl, rfl⟩
        go_wp2
        go_round
        case rel => exact ⟨k - 1, by omega, rfl, HST.out.symm.trans hh.out⟩
        case measure => show (s.extract 0 (k - 1)).size < t.size; rw [HTS.out, Pa.extract_upto_size s _ (by omega)]; omega
      | false =>
        have hstop : Pa.trimLen s.data.toList k = k := by
          by_cases e : k = 0
          · subst e; rfl
          · have h47 := (trailed_pos (s.extract 0 k) (by omega)).symm.trans htr
            have hat : s.data.toList[k - 1]? = some ((s.extract 0 k)[(s.extract 0 k).size - 1]'(by omega)) := by
              rw [← Pa.at_eq, htl, hts, Pa.take_at _ k (by omega)]
            exact Pa.trimLen_stop _ k _ (by omega) hat h47
        have htrim : (s.extract 0 k).data.toList = Pa.trimSlashes s.data.toList := by
          have h := Pa.take_trimLen s.data.toList _ (Nat.le_refl _)
          rw [List.take_length, ← hh.out, hstop] at h
          rw [← h, htl]
        have hb := M.base_trim HNE.out htrim
        have HTR := Lib.hid htr
        have HBs := Lib.hid hb
        have hxx : k = 0 → (s.extract 0 k).data.toList = [] := fun e => by rw [htl, e]; rfl
        have hxn : k ≠ 0 → (s.extract 0 k).data.toList ≠ [] := fun e e2 => by
          have h3 := Lib.size_eq (s.extract 0 k)
          rw [e2, hts] at h3
          exact e h3
        clear hstop htrim htr htl hx1 hb
        generalize s.extract 0 k = t at hts HTR HBs hxx hxn ⊢
        by_cases hk0 : k = 0
        · have tE : t.toList.isEmpty = true := isEmpty_of_size (by omega)
          have hfin : r = ⟨#[47]⟩ := by rw [← HR.out, HBs.out.1 (hxx hk0)]; rfl
          have HF := Lib.hid hfin
          have HTS := Lib.hid hts
          clear hxx hxn hfin hk0
          go_wp2_with fail
          refine (spec_Trailed_is t false _ (by rw [HTS.out]; omega) HTR.out).mono ?_
          rintro e w' ⟨rfl, rfl⟩
          go_wp2
          go_ret
          exact ⟨by rw [HF.out]; rfl, Below.refl _ _⟩
        · have tE : t.toList.isEmpty = false := isEmpty_of_pos (by omega)
          obtain ⟨d, hd⟩ : ∃ d, S (split t.data.toList).1 = d := ⟨_, rfl⟩
          have hf : S (split t.data.toList).2 = r := by rw [← HR.out, HBs.out.2 (hxn hk0)]
          have HD := Lib.hid hd
          have HF := Lib.hid hf
          have HTS := Lib.hid hts
          clear hxx hxn hd hf hk0
          go_wp2_with fail
          refine (spec_Trailed_is t false _ (by rw [HTS.out]; omega) HTR.out).mono ?_
          rintro e w' ⟨rfl, rfl⟩
          go_wp2_with fail
          refine (spec_Split_is t d r _ (by rw [HTS.out]; omega) HD.out HF.out).mono ?_
          rintro e w' ⟨rfl, n, rfl⟩
          go_wp2
          go_ret
          exact ⟨rfl, below_draws (Below.refl _ _) n⟩
  · have hE := isEmpty_of_size (s := s) (by omega)
    have hfin : r = ⟨#[46]⟩ := by rw [← HR.out, Pa.nil_of_size s h0]; rfl
    have HF := Lib.hid hfin
    clear hfin
    go_enter Try.func26, Try.ntmps26
    go_wp2
    go_ret
    exact ⟨by rw [HF.out]; rfl, Below.refl _ _⟩

theorem law_FnBase (s : ByteArray) (w : World) (hs : s.size ≤ 140737488351232) : Calls Try.prog 13 #[.string s] w fun e w' => e = .returned (.bool true) ∧ Below w.heap.size w w' := by
  obtain ⟨r, hr⟩ : ∃ r, S (base s.data.toList) = r := ⟨_, rfl⟩
  have HR := Lib.hid hr
  clear hr
  go_enter Try.func13, Try.ntmps13
  go_wp2_with fail
  refine (impl_Base s r _ (by omega) HR.out).mono ?_
  rintro e w' ⟨rfl, rfl⟩
  go_wp2_with fail
  refine (spec_Base s r _ (by omega) HR.out).mono ?_
  rintro e w1 ⟨rfl, hb⟩
  have HB := Lib.hid hb
  clear hb
  go_wp2
  go_ret
  exact ⟨by simp, HB.out⟩

theorem S_is (r : ByteArray) (c : List UInt8) : (r.toList == c) = decide (r.data.toList = c) := by
  rw [Lib.toList_data, Bool.eq_iff_iff]; simp

set_option maxHeartbeats 400000 in
theorem law_FnBaseForm (s : ByteArray) (w : World) (hs : s.size ≤ 140737488351232) : Calls Try.prog 14 #[.string s] w fun e w' => e = .returned (.bool true) ∧ Below w.heap.size w w' := by
  obtain ⟨r, hr⟩ : ∃ r, S (base s.data.toList) = r := ⟨_, rfl⟩
  have hrl : r.data.toList = base s.data.toList := by rw [← hr, S_toList]
  have hbb : S (base r.data.toList) = r := by rw [hrl, M.base_base, hr]
  have hrz : r.size ≤ 140737488351233 := by
    have := base_le s.data.toList
    rw [← hr, S_size]; rw [← Lib.size_eq] at this; omega
  have hrp : 0 < r.size := by rw [← hr, S_size]; exact List.length_pos_iff.2 (M.base_ne _)
  have rE := isEmpty_of_pos hrp
  have hcs := M.base_cases s.data.toList
  rw [← hrl] at hcs
  have HR := Lib.hid hr
  have HBB := Lib.hid hbb
  clear hr hbb hrl
  rcases hcs with h | ⟨_, h⟩
  · have u1 : (r.toList == [47]) = true := by rw [S_is]; simp [h]
    have u2 : (r.toList != [47]) = false := by unfold bne; rw [u1]; rfl
    clear h
    go_enter Try.func14, Try.ntmps14
    go_wp2_with fail
    refine (impl_Base s r _ (by omega) HR.out).mono ?_
    rintro e w' ⟨rfl, rfl⟩
    go_wp2_with fail
    go_loop [4] (fun i => ∃ k : Nat, k ≤ r.size ∧ i = .int .i64 k) (fun i => r.size - (RowKit.intOf i).toNat)
    case atStart => exact ⟨0, Nat.zero_le _, rfl⟩
    case round =>
      obtain ⟨k, hk, rfl⟩ := hrel
      by_cases hlt : k < r.size
      · by_cases hx : (((r[k]'hlt).toNat : Int) == 47) = true
        · go_wp2
          go_round
          case rel => exact ⟨k + 1, by omega, by go_num⟩
          case measure => simp [RowKit.intOf]; omega
        · have hx2 : (((r[k]'hlt).toNat : Int) == 47) = false := by simpa using hx
          clear hx
          go_wp2
          go_round
          case rel => exact ⟨k + 1, by omega, by go_num⟩
          case measure => simp [RowKit.intOf]; omega
      · go_wp2_with fail
        refine (impl_Base r r _ (by omega) HBB.out).mono ?_
        rintro e w' ⟨rfl, rfl⟩
        go_wp2
        go_ret
        exact ⟨by simp, Below.refl _ _⟩
  · have H4 := Lib.hid (fun k (hk : k < r.size) => (show (((r[k]'hk).toNat : Int) == 47) = false by
      rw [Pa.beq47]
      simp only [beq_eq_false_iff_ne, ne_eq]
      intro e
      have h2 := Pa.at_eq r k hk
      rw [e] at h2
      exact h (List.mem_of_getElem? h2)))
    clear h
    go_enter Try.func14, Try.ntmps14
    go_wp2_with fail
    refine (impl_Base s r _ (by omega) HR.out).mono ?_
    rintro e w' ⟨rfl, rfl⟩
    go_wp2_with fail
    go_loop [4] (fun i => ∃ k : Nat, k ≤ r.size ∧ i = .int .i64 k) (fun i => r.size - (RowKit.intOf i).toNat)
    case atStart => exact ⟨0, Nat.zero_le _, rfl⟩
    case round =>
      obtain ⟨k, hk, rfl⟩ := hrel
      by_cases hlt : k < r.size
      · have t1 := H4.out k hlt
        go_wp2
        go_round
        case rel => exact ⟨k + 1, by omega, by go_num⟩
        case measure => simp [RowKit.intOf]; omega
      · go_wp2_with fail
        refine (impl_Base r r _ (by omega) HBB.out).mono ?_
        rintro e w' ⟨rfl, rfl⟩
        go_wp2
        go_ret
        exact ⟨by simp, Below.refl _ _⟩

end Go.Proofs.Ytkkbbjekiacfeaa
