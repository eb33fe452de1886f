/-
  The walk of FnJoinLeft.
-/
import Derived.Test.YtedaekkpnjcojaaLawJoin
import Derived.Test.YtedaekkpnjcojaaLawsC1
namespace Go.Proofs.Ytedaekkpnjcojaa
open Go.RowKit Go.Lib
open Go.Lib.Pa (clean isAbs split ext base dir els)

theorem full_app (a b : List (List UInt8)) : full (a ++ b) = full a ++ full b := List.filter_append ..
theorem full_ne {L : List (List UInt8)} : ∀ e ∈ full L, e ≠ [] := fun e he => by
  have := (List.mem_filter.1 he).2
  simpa using this
theorem join_eq_nil {L : List (List UInt8)} : Pa.join L = [] ↔ full L = [] := by
  rw [join_full]
  by_cases h : full L = []
  · simp [h]
  · rw [if_neg h]; exact ⟨fun e => absurd e (M.clean_ne _), fun e => absurd e h⟩
/-- some may be joined first -/
theorem join_left (a b : List (List UInt8)) : Pa.join (Pa.join a :: b) = Pa.join (a ++ b) := by
  rw [join_full (Pa.join a :: b), join_full (a ++ b), full_app]
  by_cases ha : full a = []
  · have h0 : Pa.join a = [] := join_eq_nil.2 ha
    have e : full (Pa.join a :: b) = full b := by unfold full; rw [List.filter_cons_of_neg (by simp [h0])]
    rw [e, ha, List.nil_append]
  · have h0 : Pa.join a ≠ [] := fun e => ha (join_eq_nil.1 e)
    have hj : Pa.join a = clean (M.J (full a)) := by rw [join_full, if_neg ha]
    have e : full (Pa.join a :: b) = Pa.join a :: full b := by unfold full; rw [List.filter_cons_of_pos (by simp [h0])]
    have hJ : M.J (full a) ≠ [] := fun h => ha ((M.J_eq_nil full_ne).1 h)
    rw [e, if_neg (by simp), if_neg (by simp [ha])]
    by_cases hb : full b = []
    · rw [hb, M.J_single, List.append_nil, hj, M.clean_clean]
    · have e2 : M.J (Pa.join a :: full b) = Pa.join a ++ 47 :: M.J (full b) := by
        have := M.J_app [Pa.join a] (full b) (by simp) hb
        rw [M.J_single] at this
        exact this
      rw [e2, M.J_app _ _ ha hb, hj, M.clean_head hJ]
theorem wt_take (L : List (List UInt8)) (k : Nat) : M.wt (L.take k) ≤ M.wt L := by
  have := M.wt_app (L.take k) (L.drop k)
  rw [List.take_append_drop] at this
  omega
theorem wt_drop (L : List (List UInt8)) (k : Nat) : M.wt (L.take k) + M.wt (L.drop k) = M.wt L := by
  rw [← M.wt_app, List.take_append_drop]
theorem join_len (L : List (List UInt8)) : (Pa.join L).length ≤ M.wt L + 1 := by
  rw [join_full]
  by_cases h : full L = []
  · simp [h]
  · rw [if_neg h]
    have h1 := M.clean_len_le (M.J (full L))
    have h2 := M.J_le_wt (full L)
    have h3 := full_wt L
    omega

theorem Rd_slice {w : World} {A : Option Addr} {n c : Nat} {L : List (List UInt8)} (hl : L.length = n) (hc : n ≤ c) (h : Reads w w.heap.size 1 A n (vals L)) : Rd w (.slice A n c) L := ⟨A, c, by rw [hl], by rw [hl]; exact hc, by rw [hl]; exact h⟩

set_option maxHeartbeats 1600000 in
theorem law_FnJoinLeft (v : Value) (L : List (List UInt8)) (a : Int) (w : World) (hv : Rd w v L) (hwt : M.wt L ≤ 1048576) (ha : (Lit.int .i64 a).wf = true) :
    Calls Try.prog 8 #[v, .int .i64 a] w fun e w' => e = .returned (.bool true) ∧ Below w.heap.size w w' := by
  have hbth := wt_both L
  have HV := Lib.hid hv
  obtain ⟨i0, hi, hz0, hz1, hz2⟩ := info_parts str_info
  obtain ⟨A, c, rfl, hc, hr⟩ := hv
  obtain ⟨n, hnL⟩ : ∃ n, n = L.length := ⟨_, rfl⟩
  rw [← hnL] at hc hr HV hbth ⊢
  by_cases hneg : a < 0
  · clear HV hr hnL hi hz0 hz1 hz2
    go_enter Try.func8, Try.ntmps8
    go_wp2
    go_ret
    exact ⟨rfl, Below.refl _ _⟩
  by_cases hbig : (n : Int) < a
  · clear HV hr hnL hi hz0 hz1 hz2
    go_enter Try.func8, Try.ntmps8
    go_wp2
    go_ret
    exact ⟨rfl, Below.refl _ _⟩
  obtain ⟨k, rfl⟩ : ∃ k : Nat, a = k := ⟨a.toNat, by omega⟩
  have hkn : k ≤ n := by omega
  have hkc : k ≤ c := by omega
  have hp0 : (0 : Int) ≤ (k : Int) := by omega
  have hp1 : (k : Int) ≤ (n : Int) := by omega
  have hq1 : (k : Int) ≤ (c : Int) := by omega
  clear hneg hbig ha
  have lT : (L.take k).length = k := by rw [List.length_take, ← hnL]; omega
  have lD : (L.drop k).length = n - k := by rw [List.length_drop, ← hnL]
  have hr1 := hr.take (k := k) hkn
  have hr2 := hr.cut (k := k) (cap := c) hkn hc
  rw [Nat.mul_one] at hr2
  generalize hA2 : (if c = k then A else A.map (·.add k)) = A2 at hr2
  have eT : (vals L).take k = vals (L.take k) := by unfold vals; rw [List.map_take]
  have eD : (vals L).drop k = vals (L.drop k) := by unfold vals; rw [List.map_drop]
  rw [eT] at hr1
  rw [eD] at hr2
  have HT := Lib.hid (Rd_slice lT hkc hr1)
  have HD := Lib.hid hr2
  have hwT := wt_both (L.take k)
  have hwD := wt_both (L.drop k)
  have hwd := wt_drop L k
  rw [lT] at hwT
  rw [lD] at hwD
  obtain ⟨h, hh⟩ : ∃ h, S (Pa.join (L.take k)) = h := ⟨_, rfl⟩
  obtain ⟨z, hz⟩ : ∃ z, S (Pa.join L) = z := ⟨_, rfl⟩
  have hhl : h.data.toList = Pa.join (L.take k) := by rw [← hh, S_toList]
  have hz2' : S (Pa.join (h.data.toList :: L.drop k)) = z := by rw [hhl, join_left, List.take_append_drop, hz]
  have hhs : h.data.toList.length ≤ M.wt (L.take k) + 1 := by rw [hhl]; exact join_len _
  have hwl := wt_both (h.data.toList :: L.drop k)
  have hwc := M.wt_cons h.data.toList (L.drop k)
  have hlc : (h.data.toList :: L.drop k).length = 1 + (n - k) := by rw [List.length_cons, lD]; omega
  rw [hlc] at hwl
  have vc : vals (h.data.toList :: L.drop k) = [.string h] ++ vals (L.drop k) := by unfold vals; simp [S_data]
  have HZ2 := Lib.hid hz2'
  have HH := Lib.hid hh
  have HZ := Lib.hid hz
  have HVC := Lib.hid vc
  have HLC := Lib.hid hlc
  have HLT := Lib.hid lT
  have HN := Lib.hid hnL
  have kk : 1 + (n - k) ≤ maxLen ∧ (1 + (n - k)) * 16 ≤ 140737488355328 := by unfold maxLen; omega
  have K := Lib.hid kk
  have b1 : k ≤ 1099511627776 ∧ Lib.lens (L.take k) + k ≤ 281474976710656 := by omega
  have b2 : (1 + (n - k)) ≤ 1099511627776 ∧ Lib.lens (h.data.toList :: L.drop k) + (1 + (n - k)) ≤ 281474976710656 := by omega
  have b3 : n ≤ 1099511627776 ∧ Lib.lens L + n ≤ 281474976710656 := by omega
  have b4 : k ≤ 1073741824 ∧ M.wt (L.take k) ≤ 1073741824 := by omega
  have G := Lib.hid (And.intro b1 (And.intro b2 (And.intro b3 b4)))
  have hE : h.toList.isEmpty = (decide (Pa.join (L.take k) = [])) := by rw [← hh]; exact t_empty _
  clear hr hr1 hr2 eT eD hwT hwD hwd hh hz hhl hz2' hhs hwl hwc hlc vc kk b1 b2 b3 b4 hnL lT lD hbth hwt
  go_enter Try.func8, Try.ntmps8
  go_wp2_with fail
  refine (impl_Join _ (L.take k) h _ HT.out (by rw [HLT.out]; exact G.out.1.1) (by rw [HLT.out]; exact G.out.1.2) HH.out).mono ?_
  rintro e w1 ⟨rfl, hb1⟩
  have hown0 : (w1.alloc (.cells #[.string h] 9)).ownsRow w.heap.size 9 1 (.slice (some ⟨w1.heap.size, 0, none⟩) 1 1) 1 [.string h] :=
    ⟨rfl, .inr ⟨w1.heap.size, 1, #[.string h], rfl, hb1.size, heap_alloc_new w1 _, Nat.le_refl _, by decide, rfl, rfl⟩⟩
  have hb1' : Below w.heap.size w (w1.alloc (.cells #[.string h] 9)) := hb1.alloc hb1.size _
  have H0 := Lib.hid hown0
  have HB0 := Lib.hid hb1'
  have H1 := Lib.hid (HD.out.below hb1')
  have HB1 := Lib.hid hb1
  clear hown0 hb1 hb1'
  go_wp2_with (at_builtin; refine wpList_append_any _ rfl (.tmp 20) (.tmp 23) 24 rfl w.heap.size 9 i0 _ 1 16 Try.underlying24 hi hz0 hz1 hz2 rfl (by decide) (.slice (some ⟨w1.heap.size, 0, none⟩) 1 1) 1 [.string h] rfl H0.out w.heap.size A2 (n - k) (c - k) (vals (L.drop k)) rfl H1.out (vals_one _) K.out.1 K.out.2 HB0.out.size ?_)
  intro v2 w2 hown2 hg2 _
  have hb2 : Below w.heap.size w w2 := HB0.out.grown hg2 HB0.out.size (fun g hg => (H0.out.lt g hg).1)
  have hrd2 : Rd w2 v2 (h.data.toList :: L.drop k) := Rd.of_own (base := w.heap.size) (e := 9) (by rw [HLC.out, HVC.out]; exact hown2)
  have HB2 := Lib.hid hb2
  have HR2 := Lib.hid hrd2
  have HV2 := Lib.hid (HV.out.below hb2)
  have HT2 := Lib.hid (HT.out.below hb2)
  clear hown2 hg2 hb2 hrd2 H0 H1 HD
  go_wp2_with fail
  refine (impl_Join _ (h.data.toList :: L.drop k) z _ HR2.out (by rw [HLC.out]; exact G.out.2.1.1) (by rw [HLC.out]; exact G.out.2.1.2) HZ2.out).mono ?_
  rintro e w3 ⟨rfl, hb3⟩
  have HB3 := Lib.hid (below_trans HB2.out hb3)
  have HV3 := Lib.hid (HV2.out.below hb3)
  have HT3 := Lib.hid (HT2.out.below hb3)
  clear hb3 HR2
  go_wp2_with fail
  refine (impl_Join _ L z _ HV3.out (by rw [← HN.out]; exact G.out.2.2.1.1) (by rw [← HN.out]; exact G.out.2.2.1.2) HZ.out).mono ?_
  rintro e w4 ⟨rfl, hb4⟩
  have HB4 := Lib.hid (below_trans HB3.out hb4)
  have HT4 := Lib.hid (HT3.out.below hb4)
  clear hb4
  have hzz : (z.toList == z.toList) = true := by simp
  by_cases hj : Pa.join (L.take k) = []
  · have u0 : h.toList.isEmpty = true := by rw [hE]; simp [hj]
    have hje : h = ⟨#[]⟩ := by rw [← HH.out, hj]; rfl
    clear hE hj
    go_wp2_with fail
    refine (spec_Join _ (L.take k) h _ HT4.out (by rw [HLT.out]; exact G.out.2.2.2.1) G.out.2.2.2.2 HH.out).mono ?_
    rintro e w5 ⟨rfl, hb5⟩
    have HB5 := Lib.hid (below_trans HB4.out hb5)
    clear hb5
    go_wp2_with fail
    refine (join1 ⟨#[97]⟩ ⟨#[97]⟩ _ (by decide) (by decide)).mono ?_
    rintro e w6 ⟨rfl, hb6⟩
    have HB6 := Lib.hid (below_step HB5.out hb6)
    clear hb6
    go_wp2
    go_ret
    exact ⟨by simp, HB6.out⟩
  · have u0 : h.toList.isEmpty = false := by rw [hE]; simp [hj]
    clear hE hj
    go_wp2_with fail
    refine (join1 ⟨#[97]⟩ ⟨#[97]⟩ _ (by decide) (by decide)).mono ?_
    rintro e w6 ⟨rfl, hb6⟩
    have HB6 := Lib.hid (below_step HB4.out hb6)
    clear hb6
    go_wp2
    go_ret
    exact ⟨by simp, HB6.out⟩

end Go.Proofs.Ytedaekkpnjcojaa
