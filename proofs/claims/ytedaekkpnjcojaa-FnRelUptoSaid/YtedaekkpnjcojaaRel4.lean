/-
  filepath.Rel: nothing of the base is left.
-/
import Derived.Test.YtedaekkpnjcojaaRel2
import Derived.Deep.DeepCutAuto
namespace Go.Proofs.Ytedaekkpnjcojaa
open Go.RowKit Go.Lib
open Go.Lib.Pa (clean isAbs split ext base dir els)

set_option maxHeartbeats 8000000 in
set_option maxRecDepth 100000 in
theorem rel_down (s t B T : ByteArray) (w : World) (hs : s.size ≤ 35184372088832) (ht : t.size ≤ 35184372088832) (hB : S (clean s.data.toList) = B) (hT : S (clean t.data.toList) = T)
    (X Y : List UInt8) (N : Nat) (hne0 : T ≠ B) (hdot : B ≠ ⟨#[46]⟩) (hro : M.ro B.data.toList = M.ro T.data.toList)
    (hst : M.strip N B.data.toList T.data.toList = some (X, Y)) (hX : M.hd X ≠ [46, 46] ∧ X = []) :
    Calls Try.prog 32 #[.string s, .string t] w (RelOk (S Y) w) := by
  have hne : T ≠ B := hne0
  have pB := size_pos_of hB
  have pT := size_pos_of hT
  have lB := size_le_of hB
  have lT := size_le_of hT
  have xB := Pa.extract_all B
  have xT := Pa.extract_all T
  have eB := isEmpty_of_pos pB
  have dB : (B.toList == [46]) = false := beq_ne_dot hdot
  have rB : (((B[0]'pB).toNat : Int) == 47) = M.ro B.data.toList := (Pa.isAbs_pos B pB).symm
  have rT : (((T[0]'pT).toNat : Int) == 47) = M.ro T.data.toList := (Pa.isAbs_pos T pT).symm
  have HB := Lib.hid hB
  have HT := Lib.hid hT
  have HN := Lib.hid hne
  have HST := Lib.hid hst
  have HX := Lib.hid hX
  clear hX
  obtain ⟨rb, hrb⟩ : ∃ rb, rb = M.ro B.data.toList := ⟨_, rfl⟩
  rw [← hro, ← hrb] at rT
  rw [← hrb] at rB
  clear hB hT hne hdot hrb hst hne0 hro
  go_enter Try.func32, Try.ntmps32
  go_wp2_with fail
  refine (vol_name s _).mono ?_
  rintro e w' ⟨rfl, rfl⟩
  go_wp2_with fail
  refine (vol_name t _).mono ?_
  rintro e w' ⟨rfl, rfl⟩
  go_wp2_with fail
  refine (clean_call s B _ (by omega) HB.out).mono ?_
  rintro e w1 ⟨rfl, hb1⟩
  have HB1 := Lib.hid hb1
  clear hb1
  go_wp2_with fail
  refine (clean_call t T _ (by omega) HT.out).mono ?_
  rintro e w2 ⟨rfl, hb2⟩
  have HB2 := Lib.hid (below_trans HB1.out hb2)
  clear hb2 HB1
  go_wp2_with fail
  refine (sameWord_is T B false w2 (beq_ne' HN.out)).mono ?_
  rintro e w' ⟨rfl, rfl⟩
  go_wp2_with fail
  refine (sameWord_is ⟨#[]⟩ ⟨#[]⟩ true w' (by simp)).mono ?_
  rintro e w3 ⟨rfl, rfl⟩
  clear rB rT dB eB xB xT
  go_wp2_with fail
  go_loopw [14, 15, 16, 17] (fun b0 bi t0 ti wr => ∃ p q n : Nat, p ≤ B.size ∧ q ≤ T.size ∧ b0 = .int .i64 p ∧ bi = .int .i64 p ∧ t0 = .int .i64 q ∧ ti = .int .i64 q ∧
      Hid (M.strip n (B.data.toList.drop p) (T.data.toList.drop q) = some (X, Y)) ∧ Hid (Below w.heap.size w wr)) (fun b0 _ t0 _ _ => B.size + T.size - ((RowKit.intOf b0).toNat + (RowKit.intOf t0).toNat))
  case atStart => exact ⟨0, 0, N, Nat.zero_le _, Nat.zero_le _, rfl, rfl, rfl, rfl, HST.out, HB2.out⟩
  case round =>
    obtain ⟨p, q, n, hp, hq, rfl, rfl, rfl, rfl, hS, hBw⟩ := hrel
    obtain ⟨wo, rfl⟩ : ∃ wo : World, wo = wr := ⟨_, rfl⟩
    obtain ⟨p', hp1, hp2, hx, hpk, hpe⟩ := hd_facts B p hp
    obtain ⟨q', hq1, hq2, hy, hqk, hqe⟩ := hd_facts T q hq
    have HPK := Lib.hid hpk
    have HQK := Lib.hid hqk
    clear hpk hqk
    have c1 : (0 : Int) ≤ (p : Int) := by omega
    have c2 : (p : Int) ≤ (p' : Int) := by omega
    have c3 : (p' : Int) ≤ (B.size : Int) := by omega
    have c4 : (q : Int) ≤ (q' : Int) := by omega
    have c5 : (q' : Int) ≤ (T.size : Int) := by omega
    by_cases heq : M.hd (B.data.toList.drop p) = M.hd (T.data.toList.drop q)
    · obtain ⟨m, hm⟩ := M.strip_eq hS.out heq
      have he : ((T.extract q q').toList == (B.extract p p').toList) = true := by rw [hx, hy, heq]; simp
      have hpos : B.size + T.size - (p + q) ≠ 0 := by
        intro h0
        have e1 : B.data.toList.drop p = [] := List.drop_eq_nil_of_le (by rw [← Lib.size_eq]; omega)
        have e2 : T.data.toList.drop q = [] := List.drop_eq_nil_of_le (by rw [← Lib.size_eq]; omega)
        have h3 := hS.out
        rw [e1, e2, M.strip_nil] at h3
        cases h3
      have HM := Lib.hid hm
      have HE := Lib.hid he
      clear hm he heq hx hy hS
      rcases hpe with ⟨hge, htp⟩ | ⟨hlp, hpe, htp⟩
      · rcases hqe with ⟨hgq, htq⟩ | ⟨hlq, hqe, htq⟩
        · have HTP := Lib.hid htp
          have HTQ := Lib.hid htq
          clear htp htq
          have hpm : p + q < p' + q' := by omega
          go_wp2_with fail
          go_loop [15] (fun v => ∃ k : Nat, p ≤ k ∧ k ≤ p' ∧ v = .int .i64 k) (fun v => p' - (RowKit.intOf v).toNat)
          case atStart => exact ⟨p, Nat.le_refl _, hp1, rfl⟩
          case round =>
            obtain ⟨k, hk1, hk2, rfl⟩ := hrel
            by_cases hlt : k < p'
            · have hkB : k < B.size := by omega
              have tk := HPK.out k hkB hk1 hlt
              go_wp2_with fail
              go_round
              case rel => exact ⟨k + 1, by omega, by omega, by go_num⟩
              case measure => simp [RowKit.intOf]; omega
            · obtain rfl : p' = k := by omega
              clear hlt hk1 hk2
              go_wp2_with fail
              go_loop [17] (fun v => ∃ k : Nat, q ≤ k ∧ k ≤ q' ∧ v = .int .i64 k) (fun v => q' - (RowKit.intOf v).toNat)
              case atStart => exact ⟨q, Nat.le_refl _, hq1, rfl⟩
              case round =>
                obtain ⟨k, hk1, hk2, rfl⟩ := hrel
                by_cases hlt : k < q'
                · have hkB : k < T.size := by omega
                  have tk := HQK.out k hkB hk1 hlt
                  go_wp2_with fail
                  go_round
                  case rel => exact ⟨k + 1, by omega, by omega, by go_num⟩
                  case measure => simp [RowKit.intOf]; omega
                · obtain rfl : q' = k := by omega
                  clear hlt hk1 hk2
                  go_wp2_with fail
                  go_quiet ((go_at_call 41; exact Calls.quiet_of_same (sameWord_is _ _ true _ HE.out)))
                  go_wp2_with fail
                  go_roundw
                  case rel => exact ⟨p', q', m, by omega, by omega, rfl, rfl, rfl, rfl, by show _ = _; rw [← HTP.out, ← HTQ.out]; exact HM.out, below_drewN hBw.out _⟩
                  case measure => simp [RowKit.intOf]; omega
        · have HTP := Lib.hid htp
          have HTQ := Lib.hid htq
          clear htp htq
          go_wp2_with fail
          go_loop [15] (fun v => ∃ k : Nat, p ≤ k ∧ k ≤ p' ∧ v = .int .i64 k) (fun v => p' - (RowKit.intOf v).toNat)
          case atStart => exact ⟨p, Nat.le_refl _, hp1, rfl⟩
          case round =>
            obtain ⟨k, hk1, hk2, rfl⟩ := hrel
            by_cases hlt : k < p'
            · have hkB : k < B.size := by omega
              have tk := HPK.out k hkB hk1 hlt
              go_wp2_with fail
              go_round
              case rel => exact ⟨k + 1, by omega, by omega, by go_num⟩
              case measure => simp [RowKit.intOf]; omega
            · obtain rfl : p' = k := by omega
              clear hlt hk1 hk2
              go_wp2_with fail
              go_loop [17] (fun v => ∃ k : Nat, q ≤ k ∧ k ≤ q' ∧ v = .int .i64 k) (fun v => q' - (RowKit.intOf v).toNat)
              case atStart => exact ⟨q, Nat.le_refl _, hq1, rfl⟩
              case round =>
                obtain ⟨k, hk1, hk2, rfl⟩ := hrel
                by_cases hlt : k < q'
                · have hkB : k < T.size := by omega
                  have tk := HQK.out k hkB hk1 hlt
                  go_wp2_with fail
                  go_round
                  case rel => exact ⟨k + 1, by omega, by omega, by go_num⟩
                  case measure => simp [RowKit.intOf]; omega
                · obtain rfl : q' = k := by omega
                  clear hlt hk1 hk2
                  go_wp2_with fail
                  go_quiet ((go_at_call 41; exact Calls.quiet_of_same (sameWord_is _ _ true _ HE.out)))
                  go_wp2_with fail
                  go_roundw
                  case rel => exact ⟨p', q' + 1, m, by omega, by omega, rfl, rfl, by go_num, by go_num, by show _ = _; rw [← HTP.out, ← HTQ.out]; exact HM.out, below_drewN hBw.out _⟩
                  case measure => simp [RowKit.intOf]; omega
      · rcases hqe with ⟨hgq, htq⟩ | ⟨hlq, hqe, htq⟩
        · have HTP := Lib.hid htp
          have HTQ := Lib.hid htq
          clear htp htq
          go_wp2_with fail
          go_loop [15] (fun v => ∃ k : Nat, p ≤ k ∧ k ≤ p' ∧ v = .int .i64 k) (fun v => p' - (RowKit.intOf v).toNat)
          case atStart => exact ⟨p, Nat.le_refl _, hp1, rfl⟩
          case round =>
            obtain ⟨k, hk1, hk2, rfl⟩ := hrel
            by_cases hlt : k < p'
            · have hkB : k < B.size := by omega
              have tk := HPK.out k hkB hk1 hlt
              go_wp2_with fail
              go_round
              case rel => exact ⟨k + 1, by omega, by omega, by go_num⟩
              case measure => simp [RowKit.intOf]; omega
            · obtain rfl : p' = k := by omega
              clear hlt hk1 hk2
              go_wp2_with fail
              go_loop [17] (fun v => ∃ k : Nat, q ≤ k ∧ k ≤ q' ∧ v = .int .i64 k) (fun v => q' - (RowKit.intOf v).toNat)
              case atStart => exact ⟨q, Nat.le_refl _, hq1, rfl⟩
              case round =>
                obtain ⟨k, hk1, hk2, rfl⟩ := hrel
                by_cases hlt : k < q'
                · have hkB : k < T.size := by omega
                  have tk := HQK.out k hkB hk1 hlt
                  go_wp2_with fail
                  go_round
                  case rel => exact ⟨k + 1, by omega, by omega, by go_num⟩
                  case measure => simp [RowKit.intOf]; omega
                · obtain rfl : q' = k := by omega
                  clear hlt hk1 hk2
                  go_wp2_with fail
                  go_quiet ((go_at_call 41; exact Calls.quiet_of_same (sameWord_is _ _ true _ HE.out)))
                  go_wp2_with fail
                  go_roundw
                  case rel => exact ⟨p' + 1, q', m, by omega, by omega, by go_num, by go_num, rfl, rfl, by show _ = _; rw [← HTP.out, ← HTQ.out]; exact HM.out, below_drewN hBw.out _⟩
                  case measure => simp [RowKit.intOf]; omega
        · have HTP := Lib.hid htp
          have HTQ := Lib.hid htq
          clear htp htq
          go_wp2_with fail
          go_loop [15] (fun v => ∃ k : Nat, p ≤ k ∧ k ≤ p' ∧ v = .int .i64 k) (fun v => p' - (RowKit.intOf v).toNat)
          case atStart => exact ⟨p, Nat.le_refl _, hp1, rfl⟩
          case round =>
            obtain ⟨k, hk1, hk2, rfl⟩ := hrel
            by_cases hlt : k < p'
            · have hkB : k < B.size := by omega
              have tk := HPK.out k hkB hk1 hlt
              go_wp2_with fail
              go_round
              case rel => exact ⟨k + 1, by omega, by omega, by go_num⟩
              case measure => simp [RowKit.intOf]; omega
            · obtain rfl : p' = k := by omega
              clear hlt hk1 hk2
              go_wp2_with fail
              go_loop [17] (fun v => ∃ k : Nat, q ≤ k ∧ k ≤ q' ∧ v = .int .i64 k) (fun v => q' - (RowKit.intOf v).toNat)
              case atStart => exact ⟨q, Nat.le_refl _, hq1, rfl⟩
              case round =>
                obtain ⟨k, hk1, hk2, rfl⟩ := hrel
                by_cases hlt : k < q'
                · have hkB : k < T.size := by omega
                  have tk := HQK.out k hkB hk1 hlt
                  go_wp2_with fail
                  go_round
                  case rel => exact ⟨k + 1, by omega, by omega, by go_num⟩
                  case measure => simp [RowKit.intOf]; omega
                · obtain rfl : q' = k := by omega
                  clear hlt hk1 hk2
                  go_wp2_with fail
                  go_quiet ((go_at_call 41; exact Calls.quiet_of_same (sameWord_is _ _ true _ HE.out)))
                  go_wp2_with fail
                  go_roundw
                  case rel => exact ⟨p' + 1, q' + 1, m, by omega, by omega, by go_num, by go_num, by go_num, by go_num, by show _ = _; rw [← HTP.out, ← HTQ.out]; exact HM.out, below_drewN hBw.out _⟩
                  case measure => simp [RowKit.intOf]; omega
    · have hR := M.strip_ne hS.out heq
      have he : ((T.extract q q').toList == (B.extract p p').toList) = false := by
        rw [hx, hy, S_beq]; simp; intro e; exact heq e.symm
      have HE := Lib.hid he
      have HR := Lib.hid hR
      have HXX := Lib.hid hx
      clear he heq hy hS hR hx
      have hdd : ((B.extract p p').toList == [46, 46]) = false := by
        have h1 := congrArg Prod.fst HR.out
        simp only at h1
        rw [HXX.out, t_is, ← h1]; simp; exact HX.out.1
      have hlen : X.length = B.size - p := by
        have h1 := congrArg Prod.fst HR.out
        simp only at h1
        rw [h1, List.length_drop, Lib.size_eq]
      have hlenY : Y.length = T.size - q := by
        have h1 := congrArg Prod.snd HR.out
        simp only at h1
        rw [h1, List.length_drop, Lib.size_eq]
      have hX0 : X.length = 0 := by rw [HX.out.2]; rfl
      have hz1 : (p != B.size) = false := by simp; omega
      have hz2 : ((p : Int) != (B.size : Int)) = false := by simp; omega
      have c6 : (q : Int) ≤ (T.size : Int) := by omega
      clear hlen hlenY hX0
      rcases hpe with ⟨hge, htp⟩ | ⟨hlp, hpe, htp⟩
      · rcases hqe with ⟨hgq, htq⟩ | ⟨hlq, hqe, htq⟩
        · clear htp htq
          go_wp2_with fail
          go_loop [15] (fun v => ∃ k : Nat, p ≤ k ∧ k ≤ p' ∧ v = .int .i64 k) (fun v => p' - (RowKit.intOf v).toNat)
          case atStart => exact ⟨p, Nat.le_refl _, hp1, rfl⟩
          case round =>
            obtain ⟨k, hk1, hk2, rfl⟩ := hrel
            by_cases hlt : k < p'
            · have hkB : k < B.size := by omega
              have tk := HPK.out k hkB hk1 hlt
              go_wp2_with fail
              go_round
              case rel => exact ⟨k + 1, by omega, by omega, by go_num⟩
              case measure => simp [RowKit.intOf]; omega
            · obtain rfl : p' = k := by omega
              clear hlt hk1 hk2
              go_wp2_with fail
              go_loop [17] (fun v => ∃ k : Nat, q ≤ k ∧ k ≤ q' ∧ v = .int .i64 k) (fun v => q' - (RowKit.intOf v).toNat)
              case atStart => exact ⟨q, Nat.le_refl _, hq1, rfl⟩
              case round =>
                obtain ⟨k, hk1, hk2, rfl⟩ := hrel
                by_cases hlt : k < q'
                · have hkB : k < T.size := by omega
                  have tk := HQK.out k hkB hk1 hlt
                  go_wp2_with fail
                  go_round
                  case rel => exact ⟨k + 1, by omega, by omega, by go_num⟩
                  case measure => simp [RowKit.intOf]; omega
                · obtain rfl : q' = k := by omega
                  clear hlt hk1 hk2
                  go_wp2_with fail
                  go_quiet ((go_at_call 41; exact Calls.quiet_of_same (sameWord_is _ _ false _ HE.out)))
                  go_wp2_with fail
                  go_ret2
                  have h1 := congrArg Prod.snd HR.out
                  simp only at h1
                  have e9 : T.extract q T.size = S Y := by rw [Pa.extract_from, h1]; rfl
                  rw [← e9]
                  exact ⟨rfl, below_drewN hBw.out _⟩
        · clear htp htq
          go_wp2_with fail
          go_loop [15] (fun v => ∃ k : Nat, p ≤ k ∧ k ≤ p' ∧ v = .int .i64 k) (fun v => p' - (RowKit.intOf v).toNat)
          case atStart => exact ⟨p, Nat.le_refl _, hp1, rfl⟩
          case round =>
            obtain ⟨k, hk1, hk2, rfl⟩ := hrel
            by_cases hlt : k < p'
            · have hkB : k < B.size := by omega
              have tk := HPK.out k hkB hk1 hlt
              go_wp2_with fail
              go_round
              case rel => exact ⟨k + 1, by omega, by omega, by go_num⟩
              case measure => simp [RowKit.intOf]; omega
            · obtain rfl : p' = k := by omega
              clear hlt hk1 hk2
              go_wp2_with fail
              go_loop [17] (fun v => ∃ k : Nat, q ≤ k ∧ k ≤ q' ∧ v = .int .i64 k) (fun v => q' - (RowKit.intOf v).toNat)
              case atStart => exact ⟨q, Nat.le_refl _, hq1, rfl⟩
              case round =>
                obtain ⟨k, hk1, hk2, rfl⟩ := hrel
                by_cases hlt : k < q'
                · have hkB : k < T.size := by omega
                  have tk := HQK.out k hkB hk1 hlt
                  go_wp2_with fail
                  go_round
                  case rel => exact ⟨k + 1, by omega, by omega, by go_num⟩
                  case measure => simp [RowKit.intOf]; omega
                · obtain rfl : q' = k := by omega
                  clear hlt hk1 hk2
                  go_wp2_with fail
                  go_quiet ((go_at_call 41; exact Calls.quiet_of_same (sameWord_is _ _ false _ HE.out)))
                  go_wp2_with fail
                  go_ret2
                  have h1 := congrArg Prod.snd HR.out
                  simp only at h1
                  have e9 : T.extract q T.size = S Y := by rw [Pa.extract_from, h1]; rfl
                  rw [← e9]
                  exact ⟨rfl, below_drewN hBw.out _⟩
      · rcases hqe with ⟨hgq, htq⟩ | ⟨hlq, hqe, htq⟩
        · clear htp htq
          go_wp2_with fail
          go_loop [15] (fun v => ∃ k : Nat, p ≤ k ∧ k ≤ p' ∧ v = .int .i64 k) (fun v => p' - (RowKit.intOf v).toNat)
          case atStart => exact ⟨p, Nat.le_refl _, hp1, rfl⟩
          case round =>
            obtain ⟨k, hk1, hk2, rfl⟩ := hrel
            by_cases hlt : k < p'
            · have hkB : k < B.size := by omega
              have tk := HPK.out k hkB hk1 hlt
              go_wp2_with fail
              go_round
              case rel => exact ⟨k + 1, by omega, by omega, by go_num⟩
              case measure => simp [RowKit.intOf]; omega
            · obtain rfl : p' = k := by omega
              clear hlt hk1 hk2
              go_wp2_with fail
              go_loop [17] (fun v => ∃ k : Nat, q ≤ k ∧ k ≤ q' ∧ v = .int .i64 k) (fun v => q' - (RowKit.intOf v).toNat)
              case atStart => exact ⟨q, Nat.le_refl _, hq1, rfl⟩
              case round =>
                obtain ⟨k, hk1, hk2, rfl⟩ := hrel
                by_cases hlt : k < q'
                · have hkB : k < T.size := by omega
                  have tk := HQK.out k hkB hk1 hlt
                  go_wp2_with fail
                  go_round
                  case rel => exact ⟨k + 1, by omega, by omega, by go_num⟩
                  case measure => simp [RowKit.intOf]; omega
                · obtain rfl : q' = k := by omega
                  clear hlt hk1 hk2
                  go_wp2_with fail
                  go_quiet ((go_at_call 41; exact Calls.quiet_of_same (sameWord_is _ _ false _ HE.out)))
                  go_wp2_with fail
                  go_ret2
                  have h1 := congrArg Prod.snd HR.out
                  simp only at h1
                  have e9 : T.extract q T.size = S Y := by rw [Pa.extract_from, h1]; rfl
                  rw [← e9]
                  exact ⟨rfl, below_drewN hBw.out _⟩
        · clear htp htq
          go_wp2_with fail
          go_loop [15] (fun v => ∃ k : Nat, p ≤ k ∧ k ≤ p' ∧ v = .int .i64 k) (fun v => p' - (RowKit.intOf v).toNat)
          case atStart => exact ⟨p, Nat.le_refl _, hp1, rfl⟩
          case round =>
            obtain ⟨k, hk1, hk2, rfl⟩ := hrel
            by_cases hlt : k < p'
            · have hkB : k < B.size := by omega
              have tk := HPK.out k hkB hk1 hlt
              go_wp2_with fail
              go_round
              case rel => exact ⟨k + 1, by omega, by omega, by go_num⟩
              case measure => simp [RowKit.intOf]; omega
            · obtain rfl : p' = k := by omega
              clear hlt hk1 hk2
              go_wp2_with fail
              go_loop [17] (fun v => ∃ k : Nat, q ≤ k ∧ k ≤ q' ∧ v = .int .i64 k) (fun v => q' - (RowKit.intOf v).toNat)
              case atStart => exact ⟨q, Nat.le_refl _, hq1, rfl⟩
              case round =>
                obtain ⟨k, hk1, hk2, rfl⟩ := hrel
                by_cases hlt : k < q'
                · have hkB : k < T.size := by omega
                  have tk := HQK.out k hkB hk1 hlt
                  go_wp2_with fail
                  go_round
                  case rel => exact ⟨k + 1, by omega, by omega, by go_num⟩
                  case measure => simp [RowKit.intOf]; omega
                · obtain rfl : q' = k := by omega
                  clear hlt hk1 hk2
                  go_wp2_with fail
                  go_quiet ((go_at_call 41; exact Calls.quiet_of_same (sameWord_is _ _ false _ HE.out)))
                  go_wp2_with fail
                  go_ret2
                  have h1 := congrArg Prod.snd HR.out
                  simp only at h1
                  have e9 : T.extract q T.size = S Y := by rw [Pa.extract_from, h1]; rfl
                  rw [← e9]
                  exact ⟨rfl, below_drewN hBw.out _⟩

end Go.Proofs.Ytedaekkpnjcojaa
