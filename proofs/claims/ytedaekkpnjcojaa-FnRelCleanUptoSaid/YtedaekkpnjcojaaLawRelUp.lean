/-
  The walk of FnRelUp.
-/
import Derived.Test.YtedaekkpnjcojaaRel
import Derived.Test.YtedaekkpnjcojaaJoin
import Derived.Test.YtedaekkpnjcojaaJoinLaw
namespace Go.Proofs.Ytedaekkpnjcojaa
open Go.RowKit Go.Lib
open Go.Lib.Pa (clean isAbs split ext base dir els cleanStep)

/-- what is local, by its parts -/
theorem local_true {l : List UInt8} (h : localB l = true) : l ≠ [] ∧ M.ro l = false ∧ (M.E false l).head? ≠ some [46, 46] := by
  unfold localB at h; exact of_decide_eq_true h

theorem spec_Elements_len (s : ByteArray) (w : World) (n : Nat) (hs : s.size ≤ 549755813888) (hn : n = (M.E (M.ro s.data.toList) s.data.toList).length) :
    Calls Try.prog 16 #[.string s] w fun e w' => ∃ A c, e = .returned (.slice A n c) ∧ Below w.heap.size w w' :=
  (spec_Elements s w hs).mono fun _ _ ⟨_, he, ⟨A, c, hv, _, _⟩, hb⟩ => ⟨A, c, by rw [he, hv, hn], hb⟩

theorem lens_two (a b : ByteArray) : Lib.lens [a.data.toList, b.data.toList] = a.size + b.size := by
  rw [Lib.size_eq, Lib.size_eq]
  show a.data.toList.length + (b.data.toList.length + 0) = _
  omega

/-- what clean gives is a dot just where nothing is left -/
theorem clean_dot {l : List UInt8} : clean l = [46] ↔ M.ro l = false ∧ M.E false l = [] := by
  constructor
  · intro h
    have hr : M.ro l = false := by rw [← M.ro_clean, h]; rfl
    refine ⟨hr, ?_⟩
    have h2 := M.E_clean l
    rw [hr, h] at h2
    rw [← h2]
    decide
  · rintro ⟨h1, h2⟩
    rw [M.clean_eq, h1, h2]; rfl

theorem E_nil_of_nil (r : Bool) : M.E r [] = [] := by cases r <;> decide

set_option maxHeartbeats 1600000 in
theorem law_FnRelUp (b m : ByteArray) (w : World) (hbm : b.size + m.size ≤ 1048576) :
    Calls Try.prog 3 #[.string b, .string m] w fun e w' => e = .returned (.bool true) ∧ Below w.heap.size w w' := by
  cases hl : localB m.data.toList with
  | false =>
    have HL := Lib.hid hl
    clear hl
    go_enter Try.func3, Try.ntmps3
    go_wp2_with fail
    refine (spec_Local m false _ (by omega) HL.out).mono ?_
    rintro e w1 ⟨rfl, hb1⟩
    have HB1 := Lib.hid hb1
    clear hb1
    go_wp2
    go_ret
    exact ⟨rfl, HB1.out⟩
  | true =>
    have HL := Lib.hid hl
    obtain ⟨hm0, hmr, hmh⟩ := local_true hl
    clear hl
    obtain ⟨r, hr⟩ : ∃ r, S (clean b.data.toList) = r := ⟨_, rfl⟩
    have HR := Lib.hid hr
    by_cases hdot : clean b.data.toList = [46]
    · have u1 : (r.toList == [46]) = true := by rw [← hr, t_is]; simp [hdot]
      clear hr hdot hm0 hmr hmh
      go_enter Try.func3, Try.ntmps3
      go_wp2_with fail
      refine (spec_Local m true _ (by omega) HL.out).mono ?_
      rintro e w1 ⟨rfl, hb1⟩
      have HB1 := Lib.hid hb1
      clear hb1
      go_wp2_with fail
      refine (spec_Clean b r _ (by omega) HR.out).mono ?_
      rintro e w2 ⟨rfl, hb2⟩
      have HB2 := Lib.hid (below_trans HB1.out hb2)
      clear hb2
      go_wp2
      go_ret
      exact ⟨rfl, HB2.out⟩
    · have u1 : (r.toList == [46]) = false := by rw [← hr, t_is]; simp [hdot]
      obtain ⟨i0, hi, hz0, hz1, hz2⟩ := info_parts str_info
      have hb0 : b.data.toList ≠ [] := fun e => hdot (by rw [e]; rfl)
      obtain ⟨q, hq⟩ : ∃ q, q = M.ro b.data.toList := ⟨_, rfl⟩
      obtain ⟨n, hn⟩ : ∃ n, n = (M.E (M.ro m.data.toList) m.data.toList).length := ⟨_, rfl⟩
      have hnb : n ≤ 1048577 := by
        have := M.E_len (M.ro m.data.toList) m.data.toList
        rw [← hn, ← Lib.size_eq] at this; omega
      obtain ⟨z, hz⟩ : ∃ z, S (clean (b.data.toList ++ 47 :: m.data.toList)) = z := ⟨_, rfl⟩
      have hjz : S (Pa.join [b.data.toList, m.data.toList]) = z := by rw [M.join_two _ _ hm0, if_neg hb0, hz]
      have hzl : z.data.toList = clean (b.data.toList ++ 47 :: m.data.toList) := by rw [← hz, S_toList]
      have hzs : z.size ≤ 1048577 := by
        have := M.clean_len (l := b.data.toList ++ 47 :: m.data.toList) (by simp)
        rw [List.length_append, List.length_cons, ← Lib.size_eq, ← Lib.size_eq] at this
        rw [← hz, S_size]; omega
      have hE : M.E q z.data.toList = M.E q b.data.toList ++ M.E false m.data.toList := by rw [hq, hzl]; exact M.E_joined hb0 hmh
      have hro : M.ro z.data.toList = q := by rw [hzl, hq]; exact M.ro_joined hb0
      have hfix : q = false → M.E q b.data.toList = [] → M.E q z.data.toList = [] := fun e1 e2 => absurd (clean_dot.2 ⟨by rw [← hq, e1], by rw [e1] at e2; exact e2⟩) hdot
      have hrel : M.relOut (M.E q z.data.toList) (M.E q b.data.toList) = some (clean (M.J (List.replicate n M.dd))) := by
        rw [hE, M.relOut_up _ _ hmh, hn, hmr]
      obtain ⟨o, ho⟩ : ∃ o, S (clean (M.J (List.replicate n M.dd))) = o := ⟨_, rfl⟩
      have hRel : ∀ W, Calls Try.prog 17 #[.string z, .string b] W fun e w' => e = .returned (.tuple #[.string o, .bool true]) ∧ Below W.heap.size W w' := fun W => by
        have h := impl_Rel_fixed z b q W (by omega) (by omega) hro hq.symm hfix
        rw [hrel] at h
        rw [← ho]
        exact h
      have HRel := Lib.hid hRel
      have HJz := Lib.hid hjz
      have HO := Lib.hid ho
      have HN := Lib.hid hn
      clear hr hdot hm0 hmr hmh hq hz hjz hzl hE hro hfix hrel ho hRel hn hb0
      go_enter Try.func3, Try.ntmps3
      go_wp2_with fail
      refine (spec_Local m true _ (by omega) HL.out).mono ?_
      rintro e w1 ⟨rfl, hb1⟩
      have HB1 := Lib.hid hb1
      clear hb1
      go_wp2_with fail
      refine (spec_Clean b r _ (by omega) HR.out).mono ?_
      rintro e w2 ⟨rfl, hb2⟩
      have HB2 := Lib.hid (below_trans HB1.out hb2)
      clear hb2
      go_wp2_with fail
      refine (spec_Elements_len m _ n (by omega) HN.out).mono ?_
      rintro e w3 ⟨A, c, rfl, hb3⟩
      have hown0 : w3.ownsRow w.heap.size 9 1 (.slice (some ⟨w2.heap.size, 0, none⟩) 0 0) 0 (vals (List.replicate 0 M.dd)) := by
        refine ⟨rfl, .inr ⟨w2.heap.size, 0, #[], rfl, HB2.out.size, ?_, Nat.le_refl _, by decide, rfl, rfl⟩⟩
        rw [hb3.block w2.heap.size (by simp)]
        exact heap_alloc_new w2 _
      have hb3' : Below w.heap.size w w3 := (HB2.out.alloc HB2.out.size _).trans (hb3.mono (by have := HB2.out.size; simp; omega))
      have HO0 := Lib.hid hown0
      have HB3 := Lib.hid hb3'
      clear hb3 hb3' hown0
      go_wp2_with fail
      go_loopw [5, 20] (fun v i wr => ∃ k : Nat, k ≤ n ∧ i = .int .i64 k ∧ Hid (wr.ownsRow w.heap.size 9 1 v k (vals (List.replicate k M.dd))) ∧ Hid (Below w.heap.size w wr)) (fun _ i _ => n - (RowKit.intOf i).toNat)
      case atStart => exact ⟨0, Nat.zero_le _, rfl, HO0.out, HB3.out⟩
      case round =>
        obtain ⟨k, hk, rfl, hown, hBr⟩ := hrel
        have hwz := hBr.out.size
        by_cases hlt : k < n
        · go_wp2_with (at_builtin; refine wpList_append_own _ rfl _ _ 24 rfl w.heap.size 9 i0 (.string ⟨#[]⟩) 1 16 Try.underlying24 hi hz0 hz1 hz2 rfl (by decide) _ _ _ rfl (hown.out.alloc _) ⟨wr.heap.size, 0, none⟩ 1 1 [.string ⟨#[46, 46]⟩] rfl rfl ?c1 ?c2 ?c3 ?c4 ?c5 ?_)
          case c1 => exact cell_one_new _ _ _
          case c2 => intro u hu; simp at hu; subst hu; rfl
          case c3 => unfold maxLen; omega
          case c4 => omega
          case c5 => simp; omega
          · intro v' w4 hown' hgrow _
            have e2 : vals (List.replicate k M.dd) ++ [.string ⟨#[46, 46]⟩] = vals (List.replicate (k + 1) M.dd) := by rw [List.replicate_succ', vals_append]; rfl
            have hb4 : Below w.heap.size w w4 := (hBr.out.alloc hwz _).grown hgrow (by simp; omega) (fun g hg => (hown.out.lt g hg).1)
            rw [e2] at hown'
            have HO4 := Lib.hid hown'
            have HB4 := Lib.hid hb4
            clear hown' hgrow e2 hb4 hown hBr
            go_wp2
            go_roundw
            case rel => exact ⟨k + 1, by omega, by go_num, HO4.out, HB4.out⟩
            case measure => simp [RowKit.intOf]; omega
        · have hkn : k = n := by omega
          have hRd : Rd wr _ (List.replicate n M.dd) := Rd.of_own (L := List.replicate n M.dd) (by have h := hown.out; rw [hkn] at h; rw [List.length_replicate]; exact h)
          have HRd := Lib.hid hRd
          clear hkn hRd
          go_wp2_with fail
          refine (impl_Join _ [b.data.toList, m.data.toList] z _ (Rd_two wr b m) (by simp) (by rw [lens_two]; simp; omega) HJz.out).mono ?_
          rintro e w5 ⟨rfl, hb5⟩
          have hb5' : Below wr.heap.size wr w5 := ((Below.refl _ _).alloc (Nat.le_refl _) _).trans (hb5.mono (by simp))
          have HB5 := Lib.hid (below_trans hBr.out hb5')
          have HRd5 := Lib.hid (HRd.out.below hb5')
          clear hb5 hb5' HRd hown
          go_wp2_with fail
          refine (HRel.out _).mono ?_
          rintro e w6 ⟨rfl, hb6⟩
          have HB6 := Lib.hid (below_trans HB5.out hb6)
          have HRd6 := Lib.hid (HRd5.out.below hb6)
          clear hb6 HRd5 HB5
          go_wp2_with fail
          refine (spec_Joined _ (List.replicate n M.dd) _ HRd6.out (by rw [List.length_replicate]; omega) (by have := M.J_le_wt (List.replicate n M.dd); have e : M.wt (List.replicate n M.dd) = 3 * n := M.wt_dds n; omega)).mono ?_
          rintro e w7 ⟨rfl, rfl⟩
          go_wp2_with fail
          refine (spec_Clean (S (M.J (List.replicate n M.dd))) o _ (by rw [S_size]; have := M.J_le_wt (List.replicate n M.dd); have e : M.wt (List.replicate n M.dd) = 3 * n := M.wt_dds n; omega) (by rw [S_toList]; exact HO.out)).mono ?_
          rintro e w8 ⟨rfl, hb8⟩
          have HB8 := Lib.hid (below_trans HB6.out hb8)
          clear hb8
          go_wp2
          go_ret
          exact ⟨by simp, HB8.out⟩

end Go.Proofs.Ytedaekkpnjcojaa
