/-
  filepath.Rel: something of the base is left.
-/
import Derived.Test.YtedaekkpnjcojaaRel2
import Derived.Deep.DeepCutAuto
namespace Go.Proofs.Ytedaekkpnjcojaa
open Go.RowKit Go.Lib
open Go.Lib.Pa (clean isAbs split ext base dir els)

set_option maxHeartbeats 8000000 in
set_option maxRecDepth 100000 in
theorem rel_up0 (s t B T : ByteArray) (w : World) (hs : s.size ≤ 35184372088832) (ht : t.size ≤ 35184372088832) (hB : S (clean s.data.toList) = B) (hT : S (clean t.data.toList) = T)
    (X Y : List UInt8) (N : Nat) (hne0 : T ≠ B) (hdot : B ≠ ⟨#[46]⟩) (hro : M.ro B.data.toList = M.ro T.data.toList)
    (hst : M.strip N B.data.toList T.data.toList = some (X, Y)) (hX : M.hd X ≠ [46, 46] ∧ X ≠ []) (hY : Y = []) :
    Calls Try.prog 32 #[.string s, .string t] w (RelOk (S (clean (M.upPath (X.count 47) Y))) w) := by
  have hne : T ≠ B := hne0
  have pB := size_pos_of hB
  have pT := size_pos_of hT
  have lB := size_le_of hB
  have lT := size_le_of hT
  have xB := Pa.extract_all B
  have xT := Pa.extract_all T
  have eB := isEmpty_of_pos pB
  have dB : (B.toList == [46]) = false := beq_ne_dot hdot
  have rB : (((B[0]'pB).toNat : Int) == 47) = M.ro B.data.toList := (Pa.isAbs_pos B pB).symm
  have rT : (((T[0]'pT).toNat : Int) == 47) = M.ro T.data.toList := (Pa.isAbs_pos T pT).symm
  have HB := Lib.hid hB
  have HT := Lib.hid hT
  have HN := Lib.hid hne
  have HST := Lib.hid hst
  have HX := Lib.hid hX
  have HY := Lib.hid hY
  clear hX hY
  obtain ⟨rb, hrb⟩ : ∃ rb, rb = M.ro B.data.toList := ⟨_, rfl⟩
  rw [← hro, ← hrb] at rT
  rw [← hrb] at rB
  clear hB hT hne hdot hrb hst hne0 hro
  go_enter Try.func32, Try.ntmps32
  go_wp2_with fail
  refine (vol_name s _).mono ?_
  rintro e w' ⟨rfl, rfl⟩
  go_wp2_with fail
  refine (vol_name t _).mono ?_
  rintro e w' ⟨rfl, rfl⟩
  go_wp2_with fail
  refine (clean_call s B _ (by omega) HB.out).mono ?_
  rintro e w1 ⟨rfl, hb1⟩
  have HB1 := Lib.hid hb1
  clear hb1
  go_wp2_with fail
  refine (clean_call t T _ (by omega) HT.out).mono ?_
  rintro e w2 ⟨rfl, hb2⟩
  have HB2 := Lib.hid (below_trans HB1.out hb2)
  clear hb2 HB1
  go_wp2_with fail
  refine (sameWord_is T B false w2 (beq_ne' HN.out)).mono ?_
  rintro e w' ⟨rfl, rfl⟩
  go_wp2_with fail
  refine (sameWord_is ⟨#[]⟩ ⟨#[]⟩ true w' (by simp)).mono ?_
  rintro e w3 ⟨rfl, rfl⟩
  clear rB rT dB eB xB xT
  go_wp2_with fail
  go_loopw [14, 15, 16, 17] (fun b0 bi t0 ti wr => ∃ p q n : Nat, p ≤ B.size ∧ q ≤ T.size ∧ b0 = .int .i64 p ∧ bi = .int .i64 p ∧ t0 = .int .i64 q ∧ ti = .int .i64 q ∧
      Hid (M.strip n (B.data.toList.drop p) (T.data.toList.drop q) = some (X, Y)) ∧ Hid (Below w.heap.size w wr)) (fun b0 _ t0 _ _ => B.size + T.size - ((RowKit.intOf b0).toNat + (RowKit.intOf t0).toNat))
  case atStart => exact ⟨0, 0, N, Nat.zero_le _, Nat.zero_le _, rfl, rfl, rfl, rfl, HST.out, HB2.out⟩
  case round =>
    obtain ⟨p, q, n, hp, hq, rfl, rfl, rfl, rfl, hS, hBw⟩ := hrel
    obtain ⟨wo, rfl⟩ : ∃ wo : World, wo = wr := ⟨_, rfl⟩
    obtain ⟨p', hp1, hp2, hx, hpk, hpe⟩ := hd_facts B p hp
    obtain ⟨q', hq1, hq2, hy, hqk, hqe⟩ := hd_facts T q hq
    have HPK := Lib.hid hpk
    have HQK := Lib.hid hqk
    clear hpk hqk
    have c1 : (0 : Int) ≤ (p : Int) := by omega
    have c2 : (p : Int) ≤ (p' : Int) := by omega
    have c3 : (p' : Int) ≤ (B.size : Int) := by omega
    have c4 : (q : Int) ≤ (q' : Int) := by omega
    have c5 : (q' : Int) ≤ (T.size : Int) := by omega
    by_cases heq : M.hd (B.data.toList.drop p) = M.hd (T.data.toList.drop q)
    · obtain ⟨m, hm⟩ := M.strip_eq hS.out heq
      have he : ((T.extract q q').toList == (B.extract p p').toList) = true := by rw [hx, hy, heq]; simp
      have hpos : B.size + T.size - (p + q) ≠ 0 := by
        intro h0
        have e1 : B.data.toList.drop p = [] := List.drop_eq_nil_of_le (by rw [← Lib.size_eq]; omega)
        have e2 : T.data.toList.drop q = [] := List.drop_eq_nil_of_le (by rw [← Lib.size_eq]; omega)
        have h3 := hS.out
        rw [e1, e2, M.strip_nil] at h3
        cases h3
      have HM := Lib.hid hm
      have HE := Lib.hid he
      clear hm he heq hx hy hS
      rcases hpe with ⟨hge, htp⟩ | ⟨hlp, hpe, htp⟩
      · rcases hqe with ⟨hgq, htq⟩ | ⟨hlq, hqe, htq⟩
        · have HTP := Lib.hid htp
          have HTQ := Lib.hid htq
          clear htp htq
          have hpm : p + q < p' + q' := by omega
          go_wp2_with fail
          go_loop [15] (fun v => ∃ k : Nat, p ≤ k ∧ k ≤ p' ∧ v = .int .i64 k) (fun v => p' - (RowKit.intOf v).toNat)
          case atStart => exact ⟨p, Nat.le_refl _, hp1, rfl⟩
          case round =>
            obtain ⟨k, hk1, hk2, rfl⟩ := hrel
            by_cases hlt : k < p'
            · have hkB : k < B.size := by omega
              have tk := HPK.out k hkB hk1 hlt
              go_wp2_with fail
              go_round
              case rel => exact ⟨k + 1, by omega, by omega, by go_num⟩
              case measure => simp [RowKit.intOf]; omega
            · obtain rfl : p' = k := by omega
              clear hlt hk1 hk2
              go_wp2_with fail
              go_loop [17] (fun v => ∃ k : Nat, q ≤ k ∧ k ≤ q' ∧ v = .int .i64 k) (fun v => q' - (RowKit.intOf v).toNat)
              case atStart => exact ⟨q, Nat.le_refl _, hq1, rfl⟩
              case round =>
                obtain ⟨k, hk1, hk2, rfl⟩ := hrel
                by_cases hlt : k < q'
                · have hkB : k < T.size := by omega
                  have tk := HQK.out k hkB hk1 hlt
                  go_wp2_with fail
                  go_round
                  case rel => exact ⟨k + 1, by omega, by omega, by go_num⟩
                  case measure => simp [RowKit.intOf]; omega
                · obtain rfl : q' = k := by omega
                  clear hlt hk1 hk2
                  go_wp2_with fail
                  go_quiet ((go_at_call 41; exact Calls.quiet_of_same (sameWord_is _ _ true _ HE.out)))
                  go_wp2_with fail
                  go_roundw
                  case rel => exact ⟨p', q', m, by omega, by omega, rfl, rfl, rfl, rfl, by show _ = _; rw [← HTP.out, ← HTQ.out]; exact HM.out, below_drewN hBw.out _⟩
                  case measure => simp [RowKit.intOf]; omega
        · have HTP := Lib.hid htp
          have HTQ := Lib.hid htq
          clear htp htq
          go_wp2_with fail
          go_loop [15] (fun v => ∃ k : Nat, p ≤ k ∧ k ≤ p' ∧ v = .int .i64 k) (fun v => p' - (RowKit.intOf v).toNat)
          case atStart => exact ⟨p, Nat.le_refl _, hp1, rfl⟩
          case round =>
            obtain ⟨k, hk1, hk2, rfl⟩ := hrel
            by_cases hlt : k < p'
            · have hkB : k < B.size := by omega
              have tk := HPK.out k hkB hk1 hlt
              go_wp2_with fail
              go_round
              case rel => exact ⟨k + 1, by omega, by omega, by go_num⟩
              case measure => simp [RowKit.intOf]; omega
            · obtain rfl : p' = k := by omega
              clear hlt hk1 hk2
              go_wp2_with fail
              go_loop [17] (fun v => ∃ k : Nat, q ≤ k ∧ k ≤ q' ∧ v = .int .i64 k) (fun v => q' - (RowKit.intOf v).toNat)
              case atStart => exact ⟨q, Nat.le_refl _, hq1, rfl⟩
              case round =>
                obtain ⟨k, hk1, hk2, rfl⟩ := hrel
                by_cases hlt : k < q'
                · have hkB : k < T.size := by omega
                  have tk := HQK.out k hkB hk1 hlt
                  go_wp2_with fail
                  go_round
                  case rel => exact ⟨k + 1, by omega, by omega, by go_num⟩
                  case measure => simp [RowKit.intOf]; omega
                · obtain rfl : q' = k := by omega
                  clear hlt hk1 hk2
                  go_wp2_with fail
                  go_quiet ((go_at_call 41; exact Calls.quiet_of_same (sameWord_is _ _ true _ HE.out)))
                  go_wp2_with fail
                  go_roundw
                  case rel => exact ⟨p', q' + 1, m, by omega, by omega, rfl, rfl, by go_num, by go_num, by show _ = _; rw [← HTP.out, ← HTQ.out]; exact HM.out, below_drewN hBw.out _⟩
                  case measure => simp [RowKit.intOf]; omega
      · rcases hqe with ⟨hgq, htq⟩ | ⟨hlq, hqe, htq⟩
        · have HTP := Lib.hid htp
          have HTQ := Lib.hid htq
          clear htp htq
          go_wp2_with fail
          go_loop [15] (fun v => ∃ k : Nat, p ≤ k ∧ k ≤ p' ∧ v = .int .i64 k) (fun v => p' - (RowKit.intOf v).toNat)
          case atStart => exact ⟨p, Nat.le_refl _, hp1, rfl⟩
          case round =>
            obtain ⟨k, hk1, hk2, rfl⟩ := hrel
            by_cases hlt : k < p'
            · have hkB : k < B.size := by omega
              have tk := HPK.out k hkB hk1 hlt
              go_wp2_with fail
              go_round
              case rel => exact ⟨k + 1, by omega, by omega, by go_num⟩
              case measure => simp [RowKit.intOf]; omega
            · obtain rfl : p' = k := by omega
              clear hlt hk1 hk2
              go_wp2_with fail
              go_loop [17] (fun v => ∃ k : Nat, q ≤ k ∧ k ≤ q' ∧ v = .int .i64 k) (fun v => q' - (RowKit.intOf v).toNat)
              case atStart => exact ⟨q, Nat.le_refl _, hq1, rfl⟩
              case round =>
                obtain ⟨k, hk1, hk2, rfl⟩ := hrel
                by_cases hlt : k < q'
                · have hkB : k < T.size := by omega
                  have tk := HQK.out k hkB hk1 hlt
                  go_wp2_with fail
                  go_round
                  case rel => exact ⟨k + 1, by omega, by omega, by go_num⟩
                  case measure => simp [RowKit.intOf]; omega
                · obtain rfl : q' = k := by omega
                  clear hlt hk1 hk2
                  go_wp2_with fail
                  go_quiet ((go_at_call 41; exact Calls.quiet_of_same (sameWord_is _ _ true _ HE.out)))
                  go_wp2_with fail
                  go_roundw
                  case rel => exact ⟨p' + 1, q', m, by omega, by omega, by go_num, by go_num, rfl, rfl, by show _ = _; rw [← HTP.out, ← HTQ.out]; exact HM.out, below_drewN hBw.out _⟩
                  case measure => simp [RowKit.intOf]; omega
        · have HTP := Lib.hid htp
          have HTQ := Lib.hid htq
          clear htp htq
          go_wp2_with fail
          go_loop [15] (fun v => ∃ k : Nat, p ≤ k ∧ k ≤ p' ∧ v = .int .i64 k) (fun v => p' - (RowKit.intOf v).toNat)
          case atStart => exact ⟨p, Nat.le_refl _, hp1, rfl⟩
          case round =>
            obtain ⟨k, hk1, hk2, rfl⟩ := hrel
            by_cases hlt : k < p'
            · have hkB : k < B.size := by omega
              have tk := HPK.out k hkB hk1 hlt
              go_wp2_with fail
              go_round
              case rel => exact ⟨k + 1, by omega, by omega, by go_num⟩
              case measure => simp [RowKit.intOf]; omega
            · obtain rfl : p' = k := by omega
              clear hlt hk1 hk2
              go_wp2_with fail
              go_loop [17] (fun v => ∃ k : Nat, q ≤ k ∧ k ≤ q' ∧ v = .int .i64 k) (fun v => q' - (RowKit.intOf v).toNat)
              case atStart => exact ⟨q, Nat.le_refl _, hq1, rfl⟩
              case round =>
                obtain ⟨k, hk1, hk2, rfl⟩ := hrel
                by_cases hlt : k < q'
                · have hkB : k < T.size := by omega
                  have tk := HQK.out k hkB hk1 hlt
                  go_wp2_with fail
                  go_round
                  case rel => exact ⟨k + 1, by omega, by omega, by go_num⟩
                  case measure => simp [RowKit.intOf]; omega
                · obtain rfl : q' = k := by omega
                  clear hlt hk1 hk2
                  go_wp2_with fail
                  go_quiet ((go_at_call 41; exact Calls.quiet_of_same (sameWord_is _ _ true _ HE.out)))
                  go_wp2_with fail
                  go_roundw
                  case rel => exact ⟨p' + 1, q' + 1, m, by omega, by omega, by go_num, by go_num, by go_num, by go_num, by show _ = _; rw [← HTP.out, ← HTQ.out]; exact HM.out, below_drewN hBw.out _⟩
                  case measure => simp [RowKit.intOf]; omega
    · have hR := M.strip_ne hS.out heq
      have he : ((T.extract q q').toList == (B.extract p p').toList) = false := by
        rw [hx, hy, S_beq]; simp; intro e; exact heq e.symm
      have HE := Lib.hid he
      have HR := Lib.hid hR
      have HXX := Lib.hid hx
      clear he heq hy hS hR hx
      have hdd : ((B.extract p p').toList == [46, 46]) = false := by
        have h1 := congrArg Prod.fst HR.out
        simp only at h1
        rw [HXX.out, t_is, ← h1]; simp; exact HX.out.1
      have hlen : X.length = B.size - p := by
        have h1 := congrArg Prod.fst HR.out
        simp only at h1
        rw [h1, List.length_drop, Lib.size_eq]
      have hlenY : Y.length = T.size - q := by
        have h1 := congrArg Prod.snd HR.out
        simp only at h1
        rw [h1, List.length_drop, Lib.size_eq]
      have hXp : X.length ≠ 0 := fun e => HX.out.2 (List.eq_nil_of_length_eq_zero e)
      have hz1 : (p != B.size) = true := by simp; omega
      have hz2 : ((p : Int) != (B.size : Int)) = true := by simp; omega
      have c6 : (q : Int) ≤ (T.size : Int) := by omega
      have c7 : (p : Int) ≤ (B.size : Int) := by omega
      obtain ⟨m, hm⟩ : ∃ m, m = X.count 47 := ⟨_, rfl⟩
      have hmx : m ≤ X.length := by rw [hm]; exact List.count_le_length
      have hex : B.extract p B.size = S X := by
        have h1 := congrArg Prod.fst HR.out
        simp only at h1
        rw [Pa.extract_from, h1]; rfl
      have hcnt : ∀ W : World, (callFunc 44 #[.string (B.extract p B.size), .int .u8 47]).run Try.prog W = .ok (.value (.int .i64 (m : Int))) W := fun W => by
        rw [count_run, hex, S_toList, hm]; rfl
      have hmB : m ≤ 35184372088833 := by omega
      have HM := Lib.hid hm
      have hY0 : Y.length = 0 := by rw [HY.out]; rfl
      have hw1 : (T.size != q) = false := by simp; omega
      have hw2 : ((T.size : Int) != (q : Int)) = false := by simp; omega
      have hw3 : (q != T.size) = false := by simp; omega
      have hw4 : ((q : Int) != (T.size : Int)) = false := by simp; omega
      obtain ⟨sz, hsz⟩ : ∃ sz, sz = 2 + m * 3 := ⟨_, rfl⟩
      have hmk : ∀ W : World, (Instr.makeSlice 45 (.int .i64 (2 + (m : Int) * 3)) (.int .i64 (2 + (m : Int) * 3))).run Try.prog W = .ok (.slice (some ⟨W.heap.size, 0, none⟩) sz sz) (W.alloc (.cells (madeCells #[.int .u8 0] sz) 5)) := fun W => by
        have h := run_make_row' (P := Try.prog) 45 5 (.int .u8 0) 1 Try.underlying45 u8_info rfl .i64 .i64 sz (by omega) (by omega) W
        have e : (sz : Int) = 2 + (m : Int) * 3 := by omega
        rw [e] at h
        exact h
      have hsz1 : 2 + m * 3 ≤ sz := by omega
      have HSZ := Lib.hid hsz
      clear hm hex hlen hsz
      rcases hpe with ⟨hge, htp⟩ | ⟨hlp, hpe, htp⟩
      · rcases hqe with ⟨hgq, htq⟩ | ⟨hlq, hqe, htq⟩
        · clear htp htq
          go_wp2_with fail
          go_loop [15] (fun v => ∃ k : Nat, p ≤ k ∧ k ≤ p' ∧ v = .int .i64 k) (fun v => p' - (RowKit.intOf v).toNat)
          case atStart => exact ⟨p, Nat.le_refl _, hp1, rfl⟩
          case round =>
            obtain ⟨k, hk1, hk2, rfl⟩ := hrel
            by_cases hlt : k < p'
            · have hkB : k < B.size := by omega
              have tk := HPK.out k hkB hk1 hlt
              go_wp2_with fail
              go_round
              case rel => exact ⟨k + 1, by omega, by omega, by go_num⟩
              case measure => simp [RowKit.intOf]; omega
            · obtain rfl : p' = k := by omega
              clear hlt hk1 hk2
              go_wp2_with fail
              go_loop [17] (fun v => ∃ k : Nat, q ≤ k ∧ k ≤ q' ∧ v = .int .i64 k) (fun v => q' - (RowKit.intOf v).toNat)
              case atStart => exact ⟨q, Nat.le_refl _, hq1, rfl⟩
              case round =>
                obtain ⟨k, hk1, hk2, rfl⟩ := hrel
                by_cases hlt : k < q'
                · have hkB : k < T.size := by omega
                  have tk := HQK.out k hkB hk1 hlt
                  go_wp2_with fail
                  go_round
                  case rel => exact ⟨k + 1, by omega, by omega, by go_num⟩
                  case measure => simp [RowKit.intOf]; omega
                · obtain rfl : q' = k := by omega
                  clear hlt hk1 hk2
                  go_wp2_with fail
                  go_quiet ((go_at_call 41; exact Calls.quiet_of_same (sameWord_is _ _ false _ HE.out)))
                  have HBq := Lib.hid (below_drewN hBw.out nq)
                  generalize wo.drewN nq = wq at HBq ⊢
                  obtain ⟨g, hg⟩ : ∃ g, g = wq.heap.size := ⟨_, rfl⟩
                  have hgB : w.heap.size ≤ g := by rw [hg]; exact HBq.out.size
                  have HG := Lib.hid hg
                  clear hg
                  have HA1 := Lib.hid (Buf.made wq sz)
                  have HA2 := Lib.hid (HBq.out.alloc HBq.out.size (.cells (madeCells #[.int .u8 0] sz) 5))
                  have hle2 : (⟨#[46, 46]⟩ : ByteArray).size ≤ sz := by show 2 ≤ sz; omega
                  have hfit2 : 0 + (⟨#[46, 46]⟩ : ByteArray).data.toList.length ≤ (List.replicate sz (0 : UInt8)).length := by rw [List.length_replicate]; show 2 ≤ sz; omega
                  have HF2 := Lib.hid (And.intro hle2 hfit2)
                  clear hle2 hfit2
                  go_wp2_with (with_reducible refine wpList_copy_buf (o := ⟨some 164, _, _, _, _, _⟩) rfl (.tmp 163) (.const (.string ⟨#[46, 46]⟩)) rfl wq.heap.size 0 sz sz ?_ ⟨#[46, 46]⟩ ?_ HF2.out.1 (List.replicate sz 0) HA1.out HF2.out.2 w.heap.size w HA2.out HBq.out.size ?_)
                  intro w5 hbuf5 hb5
                  rw [← HG.out] at hbuf5 ⊢
                  have HST5 := Lib.hid (up_start sz (by omega) hbuf5)
                  have HB5 := Lib.hid hb5
                  have HLY := Lib.hid hlenY
                  have hszb : sz ≤ 281474976710656 := by rw [HSZ.out]; omega
                  clear hbuf5 hb5 hdd hz1 hz2 hcnt hmk hXp hmx hlenY hY0 c1 c2 c3 c4 c5 c7
                  go_wp2_with fail
                  go_loopw [21, 22] (fun nv i wr => ∃ (j nn : Nat) (c : List UInt8), j ≤ m ∧ i = .int .i64 j ∧ nv = .int .i64 nn ∧ nn = 2 + 3 * j ∧ Hid (UpAt wr g sz c nn j) ∧ Hid (Below w.heap.size w wr)) (fun _ i _ => m - (RowKit.intOf i).toNat)
                  case atStart => exact ⟨0, 2, _, Nat.zero_le _, rfl, rfl, rfl, HST5.out, HB5.out⟩
                  case round =>
                    obtain ⟨j, nn, c, hj, rfl, rfl, hnn, hU, hBr⟩ := hrel
                    by_cases hjm : j < m
                    · have k1 : nn + 3 ≤ sz := by omega
                      have k2 : (nn : Int) < (sz : Int) := by omega
                      have k3 : (nn : Int) + 1 ≤ (sz : Int) := by omega
                      have k4 : ¬ sz = nn + 1 := by omega
                      have k5 : nn < sz := by omega
                      have z5 := u8_size
                      have hce := hU.out.1.cell (n := nn) (by rw [hU.out.2.1]; omega)
                      have hfr := hU.out.1.frozen nn
                      have hBs : Buf (wr.setCell ⟨g, nn, none⟩ (.int .u8 47)) g (over c nn [47]) := hU.out.1.stored nn 47 (by rw [hU.out.2.1]; omega)
                      have hU2 := up_round hU.out (by omega)
                      have hBl := hBr.out.setCell (p := ⟨g, nn, none⟩) hgB (.int .u8 47)
                      have HBs := Lib.hid hBs
                      have HU2 := Lib.hid hU2
                      have HBl := Lib.hid hBl
                      have HLe := Lib.hid (show (⟨#[46, 46]⟩ : ByteArray).size ≤ sz - (nn + 1) by show 2 ≤ sz - (nn + 1); omega)
                      have HFt := Lib.hid (show nn + 1 + (⟨#[46, 46]⟩ : ByteArray).data.toList.length ≤ (over c nn [47]).length by rw [over_len (by rw [hU.out.2.1]; simp; omega), hU.out.2.1]; show nn + 1 + 2 ≤ sz; omega)
                      have HNN := Lib.hid hnn
                      clear hBs hU2 hBl hnn
                      go_wp2_with (with_reducible refine wpList_copy_buf (o := ⟨some 177, _, _, _, _, _⟩) rfl (.tmp 176) (.const (.string ⟨#[46, 46]⟩)) rfl g (nn + 1) (sz - (nn + 1)) (sz - (nn + 1)) ?_ ⟨#[46, 46]⟩ ?_ HLe.out (over c nn [47]) HBs.out HFt.out w.heap.size w HBl.out hgB ?_)
                      intro w6 hbuf6 hb6
                      have HN6 := Lib.hid (HU2.out w6 hbuf6)
                      have HB6 := Lib.hid hb6
                      clear hbuf6 hb6 hce hfr HBs HU2 HBl HLe HFt hU hBr
                      go_wp2_with fail
                      go_roundw
                      case rel => exact ⟨j + 1, nn + 3, _, by omega, by go_num, by go_num, by rw [HNN.out]; omega, HN6.out, HB6.out⟩
                      case measure => simp [RowKit.intOf]; omega
                    · have hjm2 : j = m := by omega
                      have HJM := Lib.hid hjm2
                      have HNN := Lib.hid hnn
                      clear hjm2
                      have htx : (convert 45 9 (.slice (some ⟨g, 0, none⟩) sz sz)).run Try.prog wr = .ok (.string (S c)) wr := by
                        have h := hU.out.1.text sz
                        rw [hU.out.2.1] at h
                        exact h
                      have hfin : S c = S (M.upPath (X.count 47) Y) := by
                        have h3 := hU.out.2.2
                        have e1 : nn = sz := by rw [HSZ.out]; omega
                        rw [e1, ← hU.out.2.1, List.take_length] at h3
                        rw [h3, HJM.out, HM.out, HY.out]
                        unfold M.upPath
                        rw [if_pos rfl, List.append_nil]
                      have hszc : (S c).size ≤ 281474976710656 := by rw [S_size, hU.out.2.1]; omega
                      have HF := Lib.hid hfin
                      have hnz : ¬ (9223372036854775807 < (S c).size) := by omega
                      clear hnn hfin
                      go_wp2_with fail
                      refine (clean_call (S c) _ wr hszc rfl).mono ?_
                      rintro e w7 ⟨rfl, hb7⟩
                      have HB7 := Lib.hid (below_trans hBr.out hb7)
                      clear hb7
                      rw [HF.out, S_toList]
                      go_wp2_with fail
                      go_ret2
                      exact ⟨rfl, HB7.out⟩
        · clear htp htq
          exfalso
          omega
      · rcases hqe with ⟨hgq, htq⟩ | ⟨hlq, hqe, htq⟩
        · clear htp htq
          go_wp2_with fail
          go_loop [15] (fun v => ∃ k : Nat, p ≤ k ∧ k ≤ p' ∧ v = .int .i64 k) (fun v => p' - (RowKit.intOf v).toNat)
          case atStart => exact ⟨p, Nat.le_refl _, hp1, rfl⟩
          case round =>
            obtain ⟨k, hk1, hk2, rfl⟩ := hrel
            by_cases hlt : k < p'
            · have hkB : k < B.size := by omega
              have tk := HPK.out k hkB hk1 hlt
              go_wp2_with fail
              go_round
              case rel => exact ⟨k + 1, by omega, by omega, by go_num⟩
              case measure => simp [RowKit.intOf]; omega
            · obtain rfl : p' = k := by omega
              clear hlt hk1 hk2
              go_wp2_with fail
              go_loop [17] (fun v => ∃ k : Nat, q ≤ k ∧ k ≤ q' ∧ v = .int .i64 k) (fun v => q' - (RowKit.intOf v).toNat)
              case atStart => exact ⟨q, Nat.le_refl _, hq1, rfl⟩
              case round =>
                obtain ⟨k, hk1, hk2, rfl⟩ := hrel
                by_cases hlt : k < q'
                · have hkB : k < T.size := by omega
                  have tk := HQK.out k hkB hk1 hlt
                  go_wp2_with fail
                  go_round
                  case rel => exact ⟨k + 1, by omega, by omega, by go_num⟩
                  case measure => simp [RowKit.intOf]; omega
                · obtain rfl : q' = k := by omega
                  clear hlt hk1 hk2
                  go_wp2_with fail
                  go_quiet ((go_at_call 41; exact Calls.quiet_of_same (sameWord_is _ _ false _ HE.out)))
                  have HBq := Lib.hid (below_drewN hBw.out nq)
                  generalize wo.drewN nq = wq at HBq ⊢
                  obtain ⟨g, hg⟩ : ∃ g, g = wq.heap.size := ⟨_, rfl⟩
                  have hgB : w.heap.size ≤ g := by rw [hg]; exact HBq.out.size
                  have HG := Lib.hid hg
                  clear hg
                  have HA1 := Lib.hid (Buf.made wq sz)
                  have HA2 := Lib.hid (HBq.out.alloc HBq.out.size (.cells (madeCells #[.int .u8 0] sz) 5))
                  have hle2 : (⟨#[46, 46]⟩ : ByteArray).size ≤ sz := by show 2 ≤ sz; omega
                  have hfit2 : 0 + (⟨#[46, 46]⟩ : ByteArray).data.toList.length ≤ (List.replicate sz (0 : UInt8)).length := by rw [List.length_replicate]; show 2 ≤ sz; omega
                  have HF2 := Lib.hid (And.intro hle2 hfit2)
                  clear hle2 hfit2
                  go_wp2_with (with_reducible refine wpList_copy_buf (o := ⟨some 164, _, _, _, _, _⟩) rfl (.tmp 163) (.const (.string ⟨#[46, 46]⟩)) rfl wq.heap.size 0 sz sz ?_ ⟨#[46, 46]⟩ ?_ HF2.out.1 (List.replicate sz 0) HA1.out HF2.out.2 w.heap.size w HA2.out HBq.out.size ?_)
                  intro w5 hbuf5 hb5
                  rw [← HG.out] at hbuf5 ⊢
                  have HST5 := Lib.hid (up_start sz (by omega) hbuf5)
                  have HB5 := Lib.hid hb5
                  have HLY := Lib.hid hlenY
                  have hszb : sz ≤ 281474976710656 := by rw [HSZ.out]; omega
                  clear hbuf5 hb5 hdd hz1 hz2 hcnt hmk hXp hmx hlenY hY0 c1 c2 c3 c4 c5 c7
                  go_wp2_with fail
                  go_loopw [21, 22] (fun nv i wr => ∃ (j nn : Nat) (c : List UInt8), j ≤ m ∧ i = .int .i64 j ∧ nv = .int .i64 nn ∧ nn = 2 + 3 * j ∧ Hid (UpAt wr g sz c nn j) ∧ Hid (Below w.heap.size w wr)) (fun _ i _ => m - (RowKit.intOf i).toNat)
                  case atStart => exact ⟨0, 2, _, Nat.zero_le _, rfl, rfl, rfl, HST5.out, HB5.out⟩
                  case round =>
                    obtain ⟨j, nn, c, hj, rfl, rfl, hnn, hU, hBr⟩ := hrel
                    by_cases hjm : j < m
                    · have k1 : nn + 3 ≤ sz := by omega
                      have k2 : (nn : Int) < (sz : Int) := by omega
                      have k3 : (nn : Int) + 1 ≤ (sz : Int) := by omega
                      have k4 : ¬ sz = nn + 1 := by omega
                      have k5 : nn < sz := by omega
                      have z5 := u8_size
                      have hce := hU.out.1.cell (n := nn) (by rw [hU.out.2.1]; omega)
                      have hfr := hU.out.1.frozen nn
                      have hBs : Buf (wr.setCell ⟨g, nn, none⟩ (.int .u8 47)) g (over c nn [47]) := hU.out.1.stored nn 47 (by rw [hU.out.2.1]; omega)
                      have hU2 := up_round hU.out (by omega)
                      have hBl := hBr.out.setCell (p := ⟨g, nn, none⟩) hgB (.int .u8 47)
                      have HBs := Lib.hid hBs
                      have HU2 := Lib.hid hU2
                      have HBl := Lib.hid hBl
                      have HLe := Lib.hid (show (⟨#[46, 46]⟩ : ByteArray).size ≤ sz - (nn + 1) by show 2 ≤ sz - (nn + 1); omega)
                      have HFt := Lib.hid (show nn + 1 + (⟨#[46, 46]⟩ : ByteArray).data.toList.length ≤ (over c nn [47]).length by rw [over_len (by rw [hU.out.2.1]; simp; omega), hU.out.2.1]; show nn + 1 + 2 ≤ sz; omega)
                      have HNN := Lib.hid hnn
                      clear hBs hU2 hBl hnn
                      go_wp2_with (with_reducible refine wpList_copy_buf (o := ⟨some 177, _, _, _, _, _⟩) rfl (.tmp 176) (.const (.string ⟨#[46, 46]⟩)) rfl g (nn + 1) (sz - (nn + 1)) (sz - (nn + 1)) ?_ ⟨#[46, 46]⟩ ?_ HLe.out (over c nn [47]) HBs.out HFt.out w.heap.size w HBl.out hgB ?_)
                      intro w6 hbuf6 hb6
                      have HN6 := Lib.hid (HU2.out w6 hbuf6)
                      have HB6 := Lib.hid hb6
                      clear hbuf6 hb6 hce hfr HBs HU2 HBl HLe HFt hU hBr
                      go_wp2_with fail
                      go_roundw
                      case rel => exact ⟨j + 1, nn + 3, _, by omega, by go_num, by go_num, by rw [HNN.out]; omega, HN6.out, HB6.out⟩
                      case measure => simp [RowKit.intOf]; omega
                    · have hjm2 : j = m := by omega
                      have HJM := Lib.hid hjm2
                      have HNN := Lib.hid hnn
                      clear hjm2
                      have htx : (convert 45 9 (.slice (some ⟨g, 0, none⟩) sz sz)).run Try.prog wr = .ok (.string (S c)) wr := by
                        have h := hU.out.1.text sz
                        rw [hU.out.2.1] at h
                        exact h
                      have hfin : S c = S (M.upPath (X.count 47) Y) := by
                        have h3 := hU.out.2.2
                        have e1 : nn = sz := by rw [HSZ.out]; omega
                        rw [e1, ← hU.out.2.1, List.take_length] at h3
                        rw [h3, HJM.out, HM.out, HY.out]
                        unfold M.upPath
                        rw [if_pos rfl, List.append_nil]
                      have hszc : (S c).size ≤ 281474976710656 := by rw [S_size, hU.out.2.1]; omega
                      have HF := Lib.hid hfin
                      have hnz : ¬ (9223372036854775807 < (S c).size) := by omega
                      clear hnn hfin
                      go_wp2_with fail
                      refine (clean_call (S c) _ wr hszc rfl).mono ?_
                      rintro e w7 ⟨rfl, hb7⟩
                      have HB7 := Lib.hid (below_trans hBr.out hb7)
                      clear hb7
                      rw [HF.out, S_toList]
                      go_wp2_with fail
                      go_ret2
                      exact ⟨rfl, HB7.out⟩
        · clear htp htq
          exfalso
          omega

end Go.Proofs.Ytedaekkpnjcojaa
