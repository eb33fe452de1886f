/-
  Contracts of spec.without and spec.step.
-/
import Derived.Test.YtodfjjkjkkpkhaaSpec1
import Derived.Deep.RegionLaw
import Derived.IntWalk
namespace Go.Proofs.Ytodfjjkjkkpkhaa
open Go.RowKit Go.Lib
open Go.Lib.Pa (clean isAbs split ext base dir els)

theorem Reads.take {w : World} {B n k : Nat} {A : Option Addr} {xs : List Value} (h : Reads w B 1 A n xs) (hk : k ≤ n) : Reads w B 1 A k (xs.take k) := by
  refine ⟨by rw [List.length_take, h.1]; omega, fun h0 => ?_⟩
  obtain ⟨ad, e, hb, hc⟩ := h.2 (by omega)
  refine ⟨ad, e, hb, fun j u hu => hc j u ?_⟩
  rw [List.getElem?_take] at hu
  split at hu
  · exact hu
  · cases hu

set_option maxHeartbeats 800000 in
theorem spec_without (v : Value) (L : List (List UInt8)) (at' cnt : Nat) (w : World) (hv : Rd w v L) (hle : at' + cnt ≤ L.length) (hn : L.length ≤ 1099511627776) :
    Calls Try.prog 41 #[v, .int .i64 at', .int .i64 cnt] w fun e w' => ∃ v', e = .returned v' ∧ w'.ownsRow w.heap.size 9 1 v' (L.take at' ++ L.drop (at' + cnt)).length (vals (L.take at' ++ L.drop (at' + cnt))) ∧ Below w.heap.size w w' := by
  obtain ⟨i0, hi, hz0, hz1, hz2⟩ := info_parts str_info
  obtain ⟨A, c, rfl, hc, hr⟩ := hv
  obtain ⟨n, hnL⟩ : ∃ n, n = L.length := ⟨_, rfl⟩
  rw [← hnL] at hn hc hle hr ⊢
  have hr1 := hr.take (k := at') (by omega)
  have hr2 := hr.cut (k := at' + cnt) (cap := c) hle hc
  rw [Nat.mul_one] at hr2
  generalize hA2 : (if c = at' + cnt then A else A.map (·.add (at' + cnt))) = A2 at hr2
  have eT : (vals L).take at' = vals (L.take at') := by unfold vals; rw [List.map_take]
  have eD : (vals L).drop (at' + cnt) = vals (L.drop (at' + cnt)) := by unfold vals; rw [List.map_drop]
  rw [eT] at hr1
  rw [eD] at hr2
  have hW : (w.alloc (.cells #[] 9)).drew.heap.size = w.heap.size + 1 := by simp
  have hb0 : Below w.heap.size w (w.alloc (.cells #[] 9)).drew := ((Below.refl _ _).alloc (Nat.le_refl _) _).drew
  have hr1' : Reads (w.alloc (.cells #[] 9)).drew w.heap.size 1 A at' (vals (L.take at')) := hr1.below hb0
  have hown0 : (w.alloc (.cells #[] 9)).drew.ownsRow w.heap.size 9 1 (.slice (some ⟨w.heap.size, 0, none⟩) 0 0) 0 [] :=
    ⟨rfl, .inr ⟨w.heap.size, 0, #[], rfl, Nat.le_refl _, heap_alloc_new w _, Nat.le_refl _, by decide, rfl, rfl⟩⟩
  have H1 := Lib.hid hr1'
  have H2 := Lib.hid hr2
  have H0 := Lib.hid hown0
  have HB0 := Lib.hid hb0
  have hs1 : w.heap.size ≤ (w.alloc (.cells #[] 9)).drew.heap.size := by rw [hW]; omega
  have HS1 := Lib.hid hs1
  have k1 : 0 + at' ≤ maxLen := by simp only [maxLen]; omega
  have k2 : (0 + at') * 16 ≤ 140737488355328 := by omega
  have k3 : 0 + at' + (n - (at' + cnt)) ≤ maxLen := by simp only [maxLen]; omega
  have k4 : (0 + at' + (n - (at' + cnt))) * 16 ≤ 140737488355328 := by omega
  have K := Lib.hid (And.intro k1 (And.intro k2 (And.intro k3 k4)))
  have lT : (L.take at').length = at' := by rw [List.length_take, ← hnL]; omega
  have lD : (L.drop (at' + cnt)).length = n - (at' + cnt) := by rw [List.length_drop, ← hnL]
  have HL := Lib.hid (And.intro lT lD)
  clear hr1 hr1' hr2 hr hnL eT eD hW hb0 hown0 hs1 k1 k2 k3 k4 lT lD
  have hwr : IntKind.i64.wrap ((at' : Int) + (cnt : Int)) = (at' : Int) + (cnt : Int) := by rw [IntKind.wrap_i64]; omega
  have hp0 : (0 : Int) ≤ (at' : Int) + (cnt : Int) := by omega
  have hp1 : (at' : Int) + (cnt : Int) ≤ (n : Int) := by omega
  have hp2 : ((at' : Int) + (cnt : Int)).toNat = at' + cnt := by omega
  have hq1 : (at' : Int) ≤ (c : Int) := by omega
  have hq2 : at' ≤ c := by omega
  go_enter Try.func41, Try.ntmps41
  go_wp2_with fail
  go_region_law (first
    | (refine step_append_any _ rfl (.tmp 7) (.tmp 10) 25 rfl w.heap.size 9 i0 _ 1 16 Try.underlying25 hi hz0 hz1 hz2 rfl (by decide) (.slice (some ⟨w.heap.size, 0, none⟩) 0 0) 0 [] (by simp [Act.eval]) H0.out w.heap.size A at' c (vals (L.take at')) (by simp [Act.eval]) H1.out (vals_one _) K.out.1 K.out.2.1 HS1.out ?_; intro v1 w1 hown1 hg1 _; have hb1 : Below w.heap.size w w1 := HB0.out.grown hg1 HS1.out (by simp [Value.ownBlock]); have HO1 := Lib.hid hown1; have HB1 := Lib.hid hb1; clear hown1 hg1 hb1)
    | (refine step_append_any _ rfl (.tmp 11) (.tmp 16) 25 rfl w.heap.size 9 i0 _ 1 16 Try.underlying25 hi hz0 hz1 hz2 rfl (by decide) v1 (0 + at') ([] ++ vals (L.take at')) (by simp [Act.eval]) HO1.out w.heap.size A2 (n - (at' + cnt)) (c - (at' + cnt)) (vals (L.drop (at' + cnt))) (by simp [Act.eval]) (H2.out.below HB1.out) (vals_one _) K.out.2.2.1 K.out.2.2.2 HB1.out.size ?_; intro v2 w2 hown2 hg2 _; have hb2 : Below w.heap.size w w2 := HB1.out.grown hg2 HB1.out.size (fun g hg => (HO1.out.lt g hg).1); have HO2 := Lib.hid hown2; have HB2 := Lib.hid hb2; clear hown2 hg2 hb2))
  go_wp2
  go_ret
  refine ⟨v2, rfl, ?_, HB2.out⟩
  have h := HO2.out
  rw [List.nil_append, ← vals_append] at h
  rw [List.length_append, HL.out.1, HL.out.2]
  simpa using h

theorem spec_without_at (v : Value) (L : List (List UInt8)) (a b : Int) (at' cnt : Nat) (w : World) (hv : Rd w v L) (hle : at' + cnt ≤ L.length) (hn : L.length ≤ 1099511627776) (ha : a = at') (hb : b = cnt) :
    Calls Try.prog 41 #[v, .int .i64 a, .int .i64 b] w fun e w' => ∃ v', e = .returned v' ∧ Rd w' v' (L.take at' ++ L.drop (at' + cnt)) ∧ Below w.heap.size w w' := by
  subst ha; subst hb
  exact (spec_without v L at' cnt w hv hle hn).mono fun e w' ⟨v', he, ho, hB⟩ => ⟨v', he, Rd.of_own ho, hB⟩

theorem stepR_some {r : Bool} {L K : List (List UInt8)} (h : M.stepGo r [] L = some K) : M.stepR r L = (K, true) := by unfold M.stepR; rw [h]
theorem stepR_none {r : Bool} {L : List (List UInt8)} (h : M.stepGo r [] L = none) : M.stepR r L = (L, false) := by unfold M.stepR; rw [h]
theorem drop_cons {L : List (List UInt8)} {k : Nat} {x : List UInt8} (h : L[k]? = some x) : L.drop k = x :: L.drop (k + 1) := by
  obtain ⟨hl, e⟩ := List.getElem?_eq_some_iff.1 h
  rw [List.drop_eq_getElem_cons hl, e]
theorem take_rev {L : List (List UInt8)} {k : Nat} {x : List UInt8} (h : L[k]? = some x) : (L.take (k + 1)).reverse = x :: (L.take k).reverse := by
  rw [List.take_add_one, h]; simp

/-- how 'step' ends where a rule has applied -/
def StepDone (r : Bool) (L : List (List UInt8)) (w : World) (e : Ending) (w' : World) : Prop := ∃ v', e = .returned (.tuple #[v', .bool (M.stepR r L).2]) ∧ Rd w' v' (M.stepR r L).1 ∧ Below w.heap.size w w'

set_option maxHeartbeats 1600000 in
theorem spec_step (r : Bool) (v : Value) (L : List (List UInt8)) (w : World) (hv : Rd w v L) (hn : L.length ≤ 1099511627776) :
    Calls Try.prog 31 #[.bool r, v] w (StepDone r L w) := by
  have HV := Lib.hid hv
  obtain ⟨A, c, rfl, hc, hr⟩ := hv
  by_cases h0 : 0 < L.length
  · obtain ⟨ad, rfl, hbl, hcell⟩ := hr.2 h0
    have HC := Lib.hid hcell
    clear hcell hr
    obtain ⟨n, hnL⟩ : ∃ n, n = L.length := ⟨_, rfl⟩
    rw [← hnL] at hn h0 hc HV ⊢
    have HN := Lib.hid hnL
    clear hnL
    go_enter Try.func31, Try.ntmps31
    go_wp2
    go_loop [10] (fun i => ∃ k : Nat, k ≤ n ∧ i = .int .i64 k ∧ Hid (M.stepGo r [] L = M.stepGo r (L.take k).reverse (L.drop k))) (fun i => n - (RowKit.intOf i).toNat)
    case atStart => exact ⟨0, Nat.zero_le _, rfl, by show _ = _; rfl⟩
    case round =>
      obtain ⟨k, hk, rfl, hS⟩ := hrel
      by_cases hlt : k < n
      · obtain ⟨x, hx⟩ : ∃ x, L[k]? = some x := ⟨L[k]'(by rw [← HN.out]; exact hlt), List.getElem?_eq_getElem _⟩
        have hce : w.cell? (ad.add k) = some (.string (S x)) := HC.out k _ (by simp [vals, hx])
        have hS1 := hS.out
        rw [drop_cons hx] at hS1
        have HX := Lib.hid hx
        have HS := Lib.hid hS1
        clear hx hS1 hS
        have t0 := t_empty x
        have t1 := t_is x [46]
        have t2 := t_is x [46, 46]
        obtain ⟨y, hy⟩ : ∃ y, y = S x := ⟨_, rfl⟩
        rw [← hy] at hce t0 t1 t2
        clear hy
        by_cases x0 : x = []
        · have u0 : y.toList.isEmpty = true := by rw [t0]; simp [x0]
          have HX0 := Lib.hid x0
          clear t0 t1 t2 x0
          go_wp2_with fail
          refine (spec_without_at _ L _ _ k 1 w HV.out (by rw [← HN.out]; omega) (by rw [← HN.out]; omega) rfl rfl).mono ?_
          rintro e w' ⟨v', rfl, hR, hB⟩
          have HR := Lib.hid hR
          have HB := Lib.hid hB
          clear hR hB
          go_wp2
          go_ret2
          have hfin := stepR_some (HS.out.trans (M.stepGo_drop r _ x _ (.inl HX0.out)))
          exact ⟨v', by rw [hfin]; rfl, by rw [hfin]; simpa using HR.out, HB.out⟩
        · have u0 : y.toList.isEmpty = false := by rw [t0]; simp [x0]
          by_cases x1 : x = [46]
          · have u1 : (y.toList == [46]) = true := by rw [t1]; simp [x1]
            have HX0 := Lib.hid x1
            clear t0 t1 t2 x0 x1
            go_wp2_with fail
            refine (spec_without_at _ L _ _ k 1 w HV.out (by rw [← HN.out]; omega) (by rw [← HN.out]; omega) rfl rfl).mono ?_
            rintro e w' ⟨v', rfl, hR, hB⟩
            have HR := Lib.hid hR
            have HB := Lib.hid hB
            clear hR hB
            go_wp2
            go_ret2
            have hfin := stepR_some (HS.out.trans (M.stepGo_drop r _ x _ (.inr HX0.out)))
            exact ⟨v', by rw [hfin]; rfl, by rw [hfin]; simpa using HR.out, HB.out⟩
          · have u1 : (y.toList == [46]) = false := by rw [t1]; simp [x1]
            by_cases x2 : x = [46, 46]
            · have u2 : (y.toList == [46, 46]) = true := by rw [t2]; simp [x2]
              have HX0 := Lib.hid x0
              have HX1 := Lib.hid x1
              have HX2 := Lib.hid x2
              clear t0 t1 t2 x0 x1 x2
              by_cases hk0 : k = 0
              · subst hk0
                have hce0 : w.cell? ad = some (.string y) := by simpa [Addr.add] using hce
                clear hce
                cases r with
                | true =>
                  go_wp2_with fail
                  refine (spec_without_at _ L _ _ 0 1 w HV.out (by rw [← HN.out]; omega) (by rw [← HN.out]; omega) rfl rfl).mono ?_
                  rintro e w' ⟨v', rfl, hR, hB⟩
                  have HR := Lib.hid hR
                  have HB := Lib.hid hB
                  clear hR hB
                  go_wp2
                  go_ret2
                  have hfin := HS.out
                  rw [HX2.out, List.take_zero, List.reverse_nil, M.stepGo_root] at hfin
                  have hfin := stepR_some hfin
                  exact ⟨v', by rw [hfin]; rfl, by rw [hfin]; simpa using HR.out, HB.out⟩
                | false =>
                  go_wp2
                  go_round
                  case rel => exact ⟨1, by omega, rfl, by show _ = _; rw [HS.out, take_rev HX.out]; exact M.stepGo_on _ _ _ _ HX0.out HX1.out (fun _ => .inl ⟨rfl, rfl⟩)⟩
                  case measure => simp [RowKit.intOf]; omega
              · have hkp : 0 < k := by omega
                have hk0' : ((k : Int) == 0) = false := by simp [hk0]
                have c1 : (0 : Int) ≤ (k : Int) - 1 := by omega
                obtain ⟨z, hz⟩ : ∃ z, L[k - 1]? = some z := ⟨L[k - 1]'(by rw [← HN.out]; omega), List.getElem?_eq_getElem _⟩
                have hce1 : w.cell? (ad.add (k - 1)) = some (.string (S z)) := HC.out (k - 1) _ (by simp [vals, hz])
                have hpre := take_rev hz
                rw [show k - 1 + 1 = k by omega] at hpre
                have s2 := t_is z [46, 46]
                have HZ := Lib.hid hz
                have HP := Lib.hid hpre
                clear hz hpre
                obtain ⟨q, hq⟩ : ∃ q, q = S z := ⟨_, rfl⟩
                rw [← hq] at hce1 s2
                clear hq
                by_cases z2 : z = [46, 46]
                · have v2 : (q.toList == [46, 46]) = true := by rw [s2]; simp [z2]
                  have v3 : (q.toList != [46, 46]) = false := by unfold bne; rw [v2]; rfl
                  have HZ2 := Lib.hid z2
                  clear s2 z2
                  go_wp2
                  go_round
                  case rel => exact ⟨k + 1, by omega, by go_num, by show _ = _; rw [HS.out, take_rev HX.out]; exact M.stepGo_on _ _ _ _ HX0.out HX1.out (fun _ => .inr ⟨_, by rw [HP.out, HZ2.out]⟩)⟩
                  case measure => simp [RowKit.intOf]; omega
                · have v2 : (q.toList == [46, 46]) = false := by rw [s2]; simp [z2]
                  have v3 : (q.toList != [46, 46]) = true := by unfold bne; rw [v2]; rfl
                  have HZ2 := Lib.hid z2
                  clear s2 z2
                  go_wp2_with fail
                  refine (spec_without_at _ L _ _ (k - 1) 2 w HV.out (by rw [← HN.out]; omega) (by rw [← HN.out]; omega) (by omega) rfl).mono ?_
                  rintro e w' ⟨v', rfl, hR, hB⟩
                  have HR := Lib.hid hR
                  have HB := Lib.hid hB
                  clear hR hB
                  go_wp2
                  go_ret2
                  have hfin := HS.out
                  rw [HX2.out, HP.out, M.stepGo_pop _ _ _ _ HZ2.out, List.reverse_reverse] at hfin
                  have hfin := stepR_some hfin
                  have hR := HR.out
                  rw [show k - 1 + 2 = k + 1 by omega] at hR
                  exact ⟨v', by rw [hfin]; rfl, by rw [hfin]; exact hR, HB.out⟩
            · have u2 : (y.toList == [46, 46]) = false := by rw [t2]; simp [x2]
              have HX0 := Lib.hid x0
              have HX1 := Lib.hid x1
              have HX2 := Lib.hid x2
              clear t0 t1 t2 x0 x1 x2
              go_wp2
              go_round
              case rel => exact ⟨k + 1, by omega, by go_num, by show _ = _; rw [HS.out, take_rev HX.out]; exact M.stepGo_on _ _ _ _ HX0.out HX1.out (fun e => absurd e HX2.out)⟩
              case measure => simp [RowKit.intOf]; omega
      · have hkn : k = n := by omega
        have hfin := hS.out
        rw [hkn, HN.out, List.drop_length] at hfin
        have HF := Lib.hid (stepR_none (hfin.trans rfl))
        clear hfin hkn
        go_wp2
        go_ret2
        exact ⟨_, by rw [HF.out]; rfl, by rw [HF.out]; exact HV.out, Below.refl _ _⟩
  · have hL : L = [] := List.eq_nil_of_length_eq_zero (by omega)
    subst hL
    go_enter Try.func31, Try.ntmps31
    go_wp2
    refine wp_loop_rounds 1 ?_
    rw [rounds_succ]
    go_wp2
    go_ret2
    exact ⟨_, rfl, HV.out, Below.refl _ _⟩

end Go.Proofs.Ytodfjjkjkkpkhaa
