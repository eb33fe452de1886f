/-
  filepath.Rel: the base is a dot, the target is neither rooted nor a dot.
-/
import Derived.Test.YtedaekkpnjcojaaRel2
namespace Go.Proofs.Ytedaekkpnjcojaa
open Go.RowKit Go.Lib
open Go.Lib.Pa (clean isAbs split ext base dir els)

set_option maxHeartbeats 1600000 in
set_option maxRecDepth 100000 in
theorem rel_dot (s t B T : ByteArray) (w : World) (hs : s.size ≤ 35184372088832) (ht : t.size ≤ 35184372088832) (hB : S (clean s.data.toList) = B) (hT : S (clean t.data.toList) = T)
    (hdot : B = ⟨#[46]⟩) (hne0 : T ≠ B) (hro : M.ro T.data.toList = false) :
    Calls Try.prog 32 #[.string s, .string t] w (RelOk T w) := by
  have pB := size_pos_of hB
  have pT := size_pos_of hT
  have lB := size_le_of hB
  have lT := size_le_of hT
  have xB := Pa.extract_all B
  have xT := Pa.extract_all T
  have dB : (B.toList == [46]) = true := by rw [hdot, Lib.toList_data]; decide
  have rT : (((T[0]'pT).toNat : Int) == 47) = false := (Pa.isAbs_pos T pT).symm.trans hro
  have HB := Lib.hid hB
  have HT := Lib.hid hT
  have HN := Lib.hid hne0
  obtain ⟨q', _, hq2, hy, hqk, hqe⟩ := hd_facts T 0 (Nat.zero_le _)
  have hq0 : 0 < q' := by
    rcases hqe with ⟨h, _⟩ | ⟨h, h2, _⟩
    · omega
    · by_cases e : q' = 0
      · subst e
        exfalso
        have : (((T[0]'pT).toNat : Int) != 47) = true := by unfold bne; rw [rT]; rfl
        rw [this] at h2
        cases h2
      · omega
  have hE : ((T.extract 0 q').toList == (⟨#[]⟩ : ByteArray).toList) = false := by
    rw [Lib.toList_data, Lib.toList_data]
    simp only [beq_eq_false_iff_ne, ne_eq]
    intro e
    have h1 : (T.extract 0 q').size = q' := Pa.extract_upto_size T q' hq2
    have h2 := Lib.size_eq (T.extract 0 q')
    rw [e] at h2
    have h3 : (⟨#[]⟩ : ByteArray).data.toList.length = 0 := rfl
    rw [h3] at h2
    omega
  have HE := Lib.hid hE
  have HQK := Lib.hid hqk
  clear hB hT hdot hne0 hro hy hqk hE
  rcases hqe with ⟨hgq, htq⟩ | ⟨hlq, hqe, htq⟩
  all_goals
    clear htq
    have c4 : (0 : Int) ≤ (q' : Int) := by omega
    have c5 : (q' : Int) ≤ (T.size : Int) := by omega
    go_enter Try.func32, Try.ntmps32
    go_wp2_with fail
    refine (vol_name s _).mono ?_
    rintro e w' ⟨rfl, rfl⟩
    go_wp2_with fail
    refine (vol_name t _).mono ?_
    rintro e w' ⟨rfl, rfl⟩
    go_wp2_with fail
    refine (clean_call s B _ (by omega) HB.out).mono ?_
    rintro e w1 ⟨rfl, hb1⟩
    have HB1 := Lib.hid hb1
    clear hb1
    go_wp2_with fail
    refine (clean_call t T _ (by omega) HT.out).mono ?_
    rintro e w2 ⟨rfl, hb2⟩
    have HB2 := Lib.hid (below_trans HB1.out hb2)
    clear hb2 HB1
    go_wp2_with fail
    refine (sameWord_is T B false w2 (beq_ne' HN.out)).mono ?_
    rintro e w' ⟨rfl, rfl⟩
    go_wp2_with fail
    refine (sameWord_is ⟨#[]⟩ ⟨#[]⟩ true w' (by simp)).mono ?_
    rintro e w3 ⟨rfl, rfl⟩
    go_wp2_with fail
    refine wp_loop_rounds 1 ?_
    rw [rounds_succ]
    go_wp2_with fail
    refine wp_loop_rounds 1 ?_
    rw [rounds_succ]
    go_wp2_with fail
    go_loop [17] (fun v => ∃ k : Nat, 0 ≤ k ∧ k ≤ q' ∧ v = .int .i64 k) (fun v => q' - (RowKit.intOf v).toNat)
    case atStart => exact ⟨0, Nat.le_refl _, Nat.zero_le _, rfl⟩
    case round =>
      obtain ⟨k, hk1, hk2, rfl⟩ := hrel
      by_cases hlt : k < q'
      · have hkB : k < T.size := by omega
        have tk := HQK.out k hkB hk1 hlt
        go_wp2_with fail
        go_round
        case rel => exact ⟨k + 1, by omega, by omega, by go_num⟩
        case measure => simp [RowKit.intOf]; omega
      · obtain rfl : q' = k := by omega
        clear hlt hk1 hk2
        go_wp2_with fail
        go_quiet ((go_at_call 41; exact Calls.quiet_of_same (sameWord_is _ _ false _ HE.out)))
        have HBq := Lib.hid (below_drewN HB2.out nq)
        go_wp2_with fail
        go_ret2
        exact ⟨rfl, HBq.out⟩

end Go.Proofs.Ytedaekkpnjcojaa
