/-
  The contract of spec.Join.
-/
import Derived.Test.YtedaekkpnjcojaaSpec3
import Derived.Test.YtedaekkpnjcojaaJoin
namespace Go.Proofs.Ytedaekkpnjcojaa
open Go.RowKit Go.Lib
open Go.Lib.Pa (clean isAbs split ext base dir els)

/-- the texts that are not empty -/
def full (L : List (List UInt8)) : List (List UInt8) := L.filter (· ≠ [])
theorem full_succ (L : List (List UInt8)) (k : Nat) (x : List UInt8) (h : L[k]? = some x) : full (L.take (k + 1)) = full (L.take k) ++ (if x = [] then [] else [x]) := by
  unfold full
  rw [List.take_add_one, h, List.filter_append]
  by_cases hx : x = [] <;> simp [hx]
theorem full_len (L : List (List UInt8)) : (full L).length ≤ L.length := List.length_filter_le _ _
theorem full_wt : ∀ (L : List (List UInt8)), M.wt (full L) ≤ M.wt L
  | [] => Nat.le_refl _
  | x :: L => by
    have ih := full_wt L
    by_cases hx : x = []
    · have e : full (x :: L) = full L := by unfold full; rw [List.filter_cons_of_neg (by simp [hx])]
      rw [e, M.wt_cons]; omega
    · have e : full (x :: L) = x :: full L := by unfold full; rw [List.filter_cons_of_pos (by simp [hx])]
      rw [e, M.wt_cons, M.wt_cons]; omega
theorem join_full (L : List (List UInt8)) : Pa.join L = if full L = [] then [] else clean (M.J (full L)) := rfl

set_option maxHeartbeats 800000 in
theorem spec_Join (v : Value) (L : List (List UInt8)) (r : ByteArray) (w : World) (hv : Rd w v L) (hN : L.length ≤ 1073741824) (hwt : M.wt L ≤ 1073741824) (hr : S (Pa.join L) = r) :
    Calls Try.prog 24 #[v] w fun e w' => e = .returned (.string r) ∧ Below w.heap.size w w' := by
  obtain ⟨i0, hi, hz0, hz1, hz2⟩ := info_parts str_info
  obtain ⟨A, c, rfl, hc, hrd⟩ := hv
  by_cases h0 : 0 < L.length
  · obtain ⟨ad, rfl, hbl, hcell⟩ := hrd.2 h0
    have HC := Lib.hid hcell
    clear hcell hrd
    have hJ : (M.J (full L)).length ≤ 1073741824 := Nat.le_trans (M.J_le_wt _) (Nat.le_trans (full_wt L) hwt)
    have hjl := join_full L
    obtain ⟨n, hnL⟩ : ∃ n, n = L.length := ⟨_, rfl⟩
    rw [← hnL] at hN h0 hc ⊢
    have HN := Lib.hid hnL
    have HR := Lib.hid hr
    have HJL := Lib.hid hjl
    clear hnL hr hjl
    go_enter Try.func24, Try.ntmps24
    go_wp2
    go_loopw [3, 9] (fun lv i wr => ∃ (k : Nat) (F : List (List UInt8)), k ≤ n ∧ i = .int .i64 k ∧ F.length ≤ k ∧ Hid (F = full (L.take k)) ∧ Hid (wr.ownsRow w.heap.size 9 1 lv F.length (vals F)) ∧ Hid (Below w.heap.size w wr)) (fun _ i _ => n - (RowKit.intOf i).toNat)
    case atStart => exact ⟨0, [], Nat.zero_le _, rfl, Nat.le_refl _, rfl, ⟨rfl, .inr ⟨w.heap.size, 0, #[], rfl, Nat.le_refl _, heap_alloc_new w _, Nat.le_refl _, by decide, rfl, rfl⟩⟩, (Below.refl _ _).alloc (Nat.le_refl _) _⟩
    case round =>
      obtain ⟨k, F, hk, rfl, hFk, hF, hown, hBr⟩ := hrel
      have hwz := hBr.out.size
      by_cases hlt : k < n
      · obtain ⟨x, hx⟩ : ∃ x, L[k]? = some x := ⟨L[k]'(by rw [← HN.out]; exact hlt), List.getElem?_eq_getElem _⟩
        have hce : wr.cell? (ad.add k) = some (.string (S x)) := (hBr.out.cell (by rw [block_of_add]; exact hbl)).trans (HC.out k _ (by simp [vals, hx]))
        have hfs := full_succ L k x hx
        have t0 := t_empty x
        obtain ⟨y, hy⟩ : ∃ y, y = S x := ⟨_, rfl⟩
        rw [← hy] at hce t0
        have HY := Lib.hid hy
        have HFS := Lib.hid hfs
        clear hy hfs hx
        have haddr : k = 0 → wr.cell? ad = some (.string y) := fun e => by
          subst e
          simpa [Addr.add] using hce
        by_cases x0 : x = []
        · have u0 : y.toList.isEmpty = true := by rw [t0]; simp [x0]
          have hF2 : F = full (L.take (k + 1)) := by rw [HFS.out, if_pos x0, List.append_nil]; exact hF.out
          have HF2 := Lib.hid hF2
          clear t0 x0 hF2
          by_cases hk0 : k = 0
          · subst hk0
            have hce0 := haddr rfl
            clear haddr hce
            go_wp2
            go_roundw
            case rel => exact ⟨1, F, by omega, by go_num, by omega, HF2.out, hown, hBr⟩
            case measure => simp [RowKit.intOf]; omega
          · clear haddr
            go_wp2
            go_roundw
            case rel => exact ⟨k + 1, F, by omega, by go_num, by omega, HF2.out, hown, hBr⟩
            case measure => simp [RowKit.intOf]; omega
        · have u0 : y.toList.isEmpty = false := by rw [t0]; simp [x0]
          have hF2 : F ++ [x] = full (L.take (k + 1)) := by rw [HFS.out, if_neg x0, hF.out]
          have HF2 := Lib.hid hF2
          clear t0 x0 hF2
          by_cases hk0 : k = 0
          · subst hk0
            have hce0 := haddr rfl
            clear haddr hce
            go_wp2_with (at_builtin; refine wpList_append_own _ rfl _ _ 24 rfl w.heap.size 9 i0 (.string ⟨#[]⟩) 1 16 Try.underlying24 hi hz0 hz1 hz2 rfl (by decide) _ _ _ rfl (hown.out.alloc _) ⟨wr.heap.size, 0, none⟩ 1 1 [.string y] rfl rfl ?c1 ?c2 ?c3 ?c4 ?c5 ?_)
            case c1 => exact cell_one_new _ _ _
            case c2 => intro u hu; simp at hu; subst hu; rfl
            case c3 => unfold maxLen; omega
            case c4 => omega
            case c5 => simp; omega
            · intro v' w1 hown' hgrow _
              have hb2 : Below w.heap.size w w1 := (hBr.out.alloc hwz _).grown hgrow (by simp; omega) (fun g hg => (hown.out.lt g hg).1)
              have e2 : vals F ++ [.string y] = vals (F ++ [x]) := by rw [vals_append, HY.out]; rfl
              rw [e2] at hown'
              have HO := Lib.hid hown'
              have HB := Lib.hid hb2
              clear hown' hgrow e2 hb2 hown hBr
              go_wp2
              go_roundw
              case rel => exact ⟨1, F ++ [x], by omega, by go_num, by rw [List.length_append, List.length_singleton]; omega, HF2.out, by rw [List.length_append]; exact HO.out, HB.out⟩
              case measure => simp [RowKit.intOf]; omega
          · clear haddr
            go_wp2_with (at_builtin; refine wpList_append_own _ rfl _ _ 24 rfl w.heap.size 9 i0 (.string ⟨#[]⟩) 1 16 Try.underlying24 hi hz0 hz1 hz2 rfl (by decide) _ _ _ rfl (hown.out.alloc _) ⟨wr.heap.size, 0, none⟩ 1 1 [.string y] rfl rfl ?d1 ?d2 ?d3 ?d4 ?d5 ?_)
            case d1 => exact cell_one_new _ _ _
            case d2 => intro u hu; simp at hu; subst hu; rfl
            case d3 => unfold maxLen; omega
            case d4 => omega
            case d5 => simp; omega
            · intro v' w1 hown' hgrow _
              have hb2 : Below w.heap.size w w1 := (hBr.out.alloc hwz _).grown hgrow (by simp; omega) (fun g hg => (hown.out.lt g hg).1)
              have e2 : vals F ++ [.string y] = vals (F ++ [x]) := by rw [vals_append, HY.out]; rfl
              rw [e2] at hown'
              have HO := Lib.hid hown'
              have HB := Lib.hid hb2
              clear hown' hgrow e2 hb2 hown hBr
              go_wp2
              go_roundw
              case rel => exact ⟨k + 1, F ++ [x], by omega, by go_num, by rw [List.length_append, List.length_singleton]; omega, HF2.out, by rw [List.length_append]; exact HO.out, HB.out⟩
              case measure => simp [RowKit.intOf]; omega
      · have hkn : k = n := by omega
        have hFL : F = full L := by rw [hF.out, hkn, HN.out, List.take_length]
        have hRd := Rd.of_own hown.out
        obtain ⟨A2, c2, hv2, hc2, hr2⟩ := hRd
        have HRd2 := Lib.hid (Rd.of_own hown.out)
        have HFL := Lib.hid hFL
        have HV2 := Lib.hid hv2
        clear hkn hFL hr2 hc2 hv2
        rw [HV2.out]
        rw [HV2.out] at HRd2
        by_cases hf0 : F.length = 0
        · have hfin : r = ⟨#[]⟩ := by
            rw [← HR.out, HJL.out, if_pos (by rw [← HFL.out]; exact List.eq_nil_of_length_eq_zero hf0)]; rfl
          have HFin := Lib.hid hfin
          have hf1 : (((F.length : Nat) : Int) == 0) = true := by simp [hf0]
          clear hfin
          go_wp2
          go_ret
          exact ⟨by rw [HFin.out]; rfl, hBr.out⟩
        · have hfl : full L ≠ [] := by rw [← HFL.out]; intro e; exact hf0 (by rw [e]; rfl)
          have hrc : S (clean (S (M.J F)).data.toList) = r := by rw [S_toList, ← HR.out, HJL.out, if_neg hfl, HFL.out]
          have HRC := Lib.hid hrc
          have hf1 : (((F.length : Nat) : Int) == 0) = false := by simp [hf0]
          have hJF : (M.J F).length ≤ 1073741824 := by rw [HFL.out]; exact hJ
          clear hrc hfl
          go_wp2_with fail
          refine (spec_Joined _ F _ HRd2.out (by omega) (by omega)).mono ?_
          rintro e w' ⟨rfl, rfl⟩
          go_wp2_with fail
          refine (spec_Clean _ r _ (by rw [S_size]; omega) HRC.out).mono ?_
          rintro e w5 ⟨rfl, hb5⟩
          have HB5 := Lib.hid (below_trans hBr.out hb5)
          clear hb5
          go_wp2
          go_ret
          exact ⟨rfl, HB5.out⟩
  · have hL : L = [] := List.eq_nil_of_length_eq_zero (by omega)
    subst hL
    have hfin : r = ⟨#[]⟩ := by rw [← hr]; rfl
    have HFin := Lib.hid hfin
    clear hr hfin
    go_enter Try.func24, Try.ntmps24
    go_wp2
    refine wp_loop_rounds 1 ?_
    rw [rounds_succ]
    go_wp2
    go_ret
    exact ⟨by rw [HFin.out]; rfl, (Below.refl _ _).alloc (Nat.le_refl _) _⟩

end Go.Proofs.Ytedaekkpnjcojaa
