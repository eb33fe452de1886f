/-
  The contract of spec.Rel.
-/
import Derived.Test.YtedaekkpnjcojaaRelFixed
import Derived.Test.YtedaekkpnjcojaaRel
import Derived.Test.YtedaekkpnjcojaaJoinLaw
namespace Go.Proofs.Ytedaekkpnjcojaa
open Go.RowKit Go.Lib
open Go.Lib.Pa (clean isAbs split ext base dir els)

theorem spec_Elements_any (s : ByteArray) (w : World) (n : Nat) (L : List (List UInt8)) (hs : s.size ≤ 549755813888) (hL : M.E (M.ro s.data.toList) s.data.toList = L) (hn : n = L.length) :
    Calls Try.prog 16 #[.string s] w fun e w' => ∃ A c, e = .returned (.slice A n c) ∧ n ≤ c ∧ Reads w' w'.heap.size 1 A n (vals L) ∧ Below w.heap.size w w' := by
  subst hL
  subst hn
  refine (spec_Elements s w hs).mono ?_
  rintro e w' ⟨v, rfl, ⟨A, c, rfl, hc, hr⟩, hb⟩
  exact ⟨A, c, rfl, hc, hr, hb⟩

theorem cut_same (x : List UInt8) (a b : List (List UInt8)) : M.cut (x :: a) (x :: b) = M.cut a b := by simp [M.cut]
theorem cut_diff {x y : List UInt8} (h : x ≠ y) (a b : List (List UInt8)) : M.cut (x :: a) (y :: b) = (x :: a, y :: b) := by simp [M.cut, h]
theorem cut_nil_left (b : List (List UInt8)) : M.cut [] b = ([], b) := by cases b <;> rfl
theorem cut_nil_right (a : List (List UInt8)) : M.cut a [] = (a, []) := by cases a <;> rfl
theorem add_zero' (a : Addr) : a.add 0 = a := by simp [Addr.add]
theorem drop_at {L : List (List UInt8)} {k : Nat} {x : List UInt8} (h : L[k]? = some x) : L.drop k = x :: L.drop (k + 1) := drop_cons h
theorem Reads.cell_at {w : World} {B n : Nat} {A : Option Addr} {L : List (List UInt8)} (h : Reads w B 1 A n (vals L)) {j : Nat} (hj : j < n) (hn : n = L.length) :
    ∃ ad x, A = some ad ∧ ad.block < B ∧ L[j]? = some x ∧ w.cell? (ad.add j) = some (.string (S x)) := by
  obtain ⟨ad, u, e, hb, hu, hc⟩ := h.at_ hj
  have hl : j < L.length := by omega
  refine ⟨ad, L[j], e, hb, List.getElem?_eq_getElem hl, ?_⟩
  have : u = .string (S L[j]) := by
    unfold vals at hu
    rw [List.getElem?_map, List.getElem?_eq_getElem hl] at hu
    simpa using hu.symm
  rw [← this]; exact hc

set_option maxHeartbeats 3200000 in
theorem srel_dd (s t : ByteArray) (r : Bool) (w : World) (hs : s.size ≤ 1073741824) (ht : t.size ≤ 1073741824) (hrs : M.ro s.data.toList = r) (hrt : M.ro t.data.toList = r) (X Y : List (List UInt8)) (hX : M.cut (M.E r s.data.toList) (M.E r t.data.toList) = (X, Y)) (hhd : X.head? = some M.dd) :
    Calls Try.prog 21 #[.string s, .string t] w (ImplRel none w) := by
  have hls := M.E_len r s.data.toList
  have hlt' := M.E_len r t.data.toList
  rw [← Lib.size_eq] at hls hlt'
  obtain ⟨L, hL⟩ : ∃ L, M.E r s.data.toList = L := ⟨_, rfl⟩
  obtain ⟨K, hK⟩ : ∃ K, M.E r t.data.toList = K := ⟨_, rfl⟩
  rw [hL] at hls hX
  rw [hK] at hlt' hX
  obtain ⟨n, hn⟩ : ∃ n, n = L.length := ⟨_, rfl⟩
  obtain ⟨m, hm⟩ : ∃ m, m = K.length := ⟨_, rfl⟩
  rw [← hn] at hls
  rw [← hm] at hlt'
  have HEs := Lib.hid (fun W => spec_Elements_any s W n L (by omega) (by rw [hrs]; exact hL) hn)
  have HEt := Lib.hid (fun W => spec_Elements_any t W m K (by omega) (by rw [hrt]; exact hK) hm)
  have HNs := Lib.hid hn
  have HNt := Lib.hid hm
  have HRs := Lib.hid hrs
  have HRt := Lib.hid hrt
  have HXY := Lib.hid hX
  have HHD := Lib.hid hhd
  clear hL hK hn hm hrs hrt hX hhd
  go_enter Try.func21, Try.ntmps21
  go_wp2_with fail
  refine (spec_Rooted_is s r _ (by omega) HRs.out).mono ?_
  rintro e w' ⟨rfl, rfl⟩
  go_wp2_with fail
  refine (spec_Rooted_is t r _ (by omega) HRt.out).mono ?_
  rintro e w' ⟨rfl, rfl⟩
  go_wp2_with fail
  refine (HEs.out _).mono ?_
  rintro e w1 ⟨A, cs, rfl, hcs, hrA, hb1⟩
  have HB1 := Lib.hid hb1
  have HA1 := Lib.hid hrA
  clear hb1 hrA
  go_wp2_with fail
  refine (HEt.out _).mono ?_
  rintro e w2 ⟨B, ct, rfl, hct, hrB, hb2⟩
  have HB2 := Lib.hid (below_trans HB1.out hb2)
  have HA := Lib.hid ((HA1.out.below hb2).more hb2.size)
  have HBr := Lib.hid hrB
  clear hb2 hrB HA1 HB1
  go_wp2_with fail
  go_loopw [8] (fun i wr => ∃ k : Nat, k ≤ n ∧ k ≤ m ∧ i = .int .i64 k ∧ Hid (M.cut (L.drop k) (K.drop k) = (X, Y)) ∧ Hid (Below w2.heap.size w2 wr)) (fun i _ => n - (RowKit.intOf i).toNat)
  case atStart => exact ⟨0, Nat.zero_le _, Nat.zero_le _, rfl, HXY.out, Below.refl _ _⟩
  case round =>
    obtain ⟨k, hkn, hkm, rfl, hC, hb3⟩ := hrel
    have hsz := hb3.out.size
    by_cases h1 : k < n
    · by_cases h2 : k < m
      · obtain ⟨ada, x, rfl, hba, hx, hca⟩ := (HA.out.below hb3.out).cell_at h1 HNs.out
        obtain ⟨adb, y, rfl, hbb, hy, hcb⟩ := (HBr.out.below hb3.out).cell_at h2 HNt.out
        have te := S_beq' x y
        have hdx := drop_at hx
        have hdy := drop_at hy
        have d1 : decide (k < n) = true := by simp [h1]
        have d2 : decide (k < m) = true := by simp [h2]
        generalize S x = x' at hca te
        generalize S y = y' at hcb te
        have HX := Lib.hid hdx
        have HY := Lib.hid hdy
        clear hdx hdy hx hy
        by_cases hxy : x = y
        · have v1 : (x'.toList == y'.toList) = true := by rw [te]; simp [hxy]
          have hC2 : M.cut (L.drop (k + 1)) (K.drop (k + 1)) = (X, Y) := by
            have h := hC.out
            rw [HX.out, HY.out, hxy, cut_same] at h
            exact h
          have HC2 := Lib.hid hC2
          clear te hC2 hxy
          go_wp2_with fail
          go_quiet (fail)
          go_wp2_with fail
          go_roundw
          case rel => exact ⟨k + 1, by omega, by omega, by go_num, HC2.out, below_drewN hb3.out _⟩
          case measure => simp [RowKit.intOf]; omega
        · have v1 : (x'.toList == y'.toList) = false := by rw [te]; simp [hxy]
          have hXY : L.drop k = X ∧ K.drop k = Y := by
            have h := hC.out
            rw [HX.out, HY.out, cut_diff hxy] at h
            rw [HX.out, HY.out]
            exact ⟨congrArg Prod.fst h, congrArg Prod.snd h⟩
          have HD := Lib.hid hXY
          clear te hXY hxy
          skip
          have hq1 : (k : Int) ≤ (n : Int) := by omega
          have hq2 : (k : Int) ≤ (m : Int) := by omega
          have hq0 : (0 : Int) ≤ (k : Int) := by omega
          have hpX : n - k = X.length := by rw [← HD.out.1, List.length_drop, ← HNs.out]
          have hpY : m - k = Y.length := by rw [← HD.out.2, List.length_drop, ← HNt.out]
          have HPX := Lib.hid hpX
          have HPY := Lib.hid hpY
          have hcA := HA.out.cut (k := k) (cap := cs) hkn hcs
          have hcB := HBr.out.cut (k := k) (cap := ct) hkm hct
          rw [Nat.mul_one] at hcA hcB
          have eA : (vals L).drop k = vals X := by rw [← HD.out.1]; unfold vals; rw [List.map_drop]
          have eB : (vals K).drop k = vals Y := by rw [← HD.out.2]; unfold vals; rw [List.map_drop]
          rw [eA] at hcA
          rw [eB] at hcB
          clear eA eB hpX hpY
          rw [if_neg (show ¬ cs = k by omega)] at hcA
          simp only [Option.map_some] at hcA
          rw [if_neg (show ¬ ct = k by omega)] at hcB
          simp only [Option.map_some] at hcB
          have HcA := Lib.hid hcA
          have HcB := Lib.hid hcB
          clear hcA hcB
          have hn0 : 0 < n - k := by
            rw [HPX.out]
            cases hX : X with
            | nil => rw [hX] at HHD; exact absurd HHD.out (by simp)
            | cons => simp
          obtain ⟨ad2, x2, hae, hb2', hx2, hc2⟩ := HcA.out.cell_at hn0 HPX.out
          obtain rfl := Option.some.inj hae
          clear hae
          have hx2d : x2 = M.dd := by
            have h := HHD.out
            rw [List.head?_eq_getElem?, hx2] at h
            exact Option.some.inj h
          have t2 : ((S x2).toList == [46, 46]) = true := by rw [t_is, hx2d]; simp [M.dd]
          have hc3 : ∀ W, Below w2.heap.size w2 W → W.cell? (ada.add k) = some (.string (S x2)) := fun W hW => by
            have h := hW.cell (p := (ada.add k).add 0) (by rw [block_of_add]; exact hb2')
            rw [hc2, add_zero'] at h
            exact h
          generalize S x2 = y2 at hc3 t2
          have HC3 := Lib.hid hc3
          clear hc3 hc2 hx2 hx2d hb2'
          go_wp2_with fail
          go_quiet (fail)
          go_wp2_with fail
          go_loopw [49] (fun i wr => i = .int .i64 0 ∧ Hid (wr.cell? (ada.add k) = some (.string y2)) ∧ Hid (Below w2.heap.size w2 wr)) (fun _ _ => 0)
          case atStart =>
            refine ⟨rfl, HC3.out _ ?_, ?_⟩
            · exact (below_drewN hb3.out _).alloc hsz _
            · exact (below_drewN hb3.out _).alloc hsz _
          case round =>
            obtain ⟨rfl, hcell, hb5⟩ := hrel
            have hcell2 := hcell.out
            go_wp2_with fail
            go_ret2
            exact ⟨rfl, below_trans HB2.out hb5.out⟩
      · have d1 : decide (k < n) = true := by simp [h1]
        have d2 : decide (k < m) = false := by simp [h2]
        have hXY : L.drop k = X ∧ K.drop k = Y := by
          have h := hC.out
          have e : K.drop k = [] := List.drop_eq_nil_of_le (by rw [← HNt.out]; omega)
          rw [e, cut_nil_right] at h
          rw [e]
          exact ⟨congrArg Prod.fst h, congrArg Prod.snd h⟩
        have HD := Lib.hid hXY
        clear hXY
        obtain ⟨ada, xa, rfl, _, _, _⟩ := HA.out.cell_at h1 HNs.out
        have hq1 : (k : Int) ≤ (n : Int) := by omega
        have hq2 : (k : Int) ≤ (m : Int) := by omega
        have hq0 : (0 : Int) ≤ (k : Int) := by omega
        have hpX : n - k = X.length := by rw [← HD.out.1, List.length_drop, ← HNs.out]
        have hpY : m - k = Y.length := by rw [← HD.out.2, List.length_drop, ← HNt.out]
        have HPX := Lib.hid hpX
        have HPY := Lib.hid hpY
        have hcA := HA.out.cut (k := k) (cap := cs) hkn hcs
        have hcB := HBr.out.cut (k := k) (cap := ct) hkm hct
        rw [Nat.mul_one] at hcA hcB
        have eA : (vals L).drop k = vals X := by rw [← HD.out.1]; unfold vals; rw [List.map_drop]
        have eB : (vals K).drop k = vals Y := by rw [← HD.out.2]; unfold vals; rw [List.map_drop]
        rw [eA] at hcA
        rw [eB] at hcB
        clear eA eB hpX hpY
        rw [if_neg (show ¬ cs = k by omega)] at hcA
        simp only [Option.map_some] at hcA
        generalize hB2 : (if ct = k then B else B.map (·.add k)) = B2 at hcB
        have HcA := Lib.hid hcA
        have HcB := Lib.hid hcB
        clear hcA hcB
        have hn0 : 0 < n - k := by
          rw [HPX.out]
          cases hX : X with
          | nil => rw [hX] at HHD; exact absurd HHD.out (by simp)
          | cons => simp
        obtain ⟨ad2, x2, hae, hb2', hx2, hc2⟩ := HcA.out.cell_at hn0 HPX.out
        obtain rfl := Option.some.inj hae
        clear hae
        have hx2d : x2 = M.dd := by
          have h := HHD.out
          rw [List.head?_eq_getElem?, hx2] at h
          exact Option.some.inj h
        have t2 : ((S x2).toList == [46, 46]) = true := by rw [t_is, hx2d]; simp [M.dd]
        have hc3 : ∀ W, Below w2.heap.size w2 W → W.cell? (ada.add k) = some (.string (S x2)) := fun W hW => by
          have h := hW.cell (p := (ada.add k).add 0) (by rw [block_of_add]; exact hb2')
          rw [hc2, add_zero'] at h
          exact h
        generalize S x2 = y2 at hc3 t2
        have HC3 := Lib.hid hc3
        clear hc3 hc2 hx2 hx2d hb2'
        go_wp2_with fail
        go_quiet (fail)
        go_wp2_with fail
        go_loopw [49] (fun i wr => i = .int .i64 0 ∧ Hid (wr.cell? (ada.add k) = some (.string y2)) ∧ Hid (Below w2.heap.size w2 wr)) (fun _ _ => 0)
        case atStart =>
          refine ⟨rfl, HC3.out _ ?_, ?_⟩
          · exact (below_drewN hb3.out _).alloc hsz _
          · exact (below_drewN hb3.out _).alloc hsz _
        case round =>
          obtain ⟨rfl, hcell, hb5⟩ := hrel
          have hcell2 := hcell.out
          go_wp2_with fail
          go_ret2
          exact ⟨rfl, below_trans HB2.out hb5.out⟩
    · have d1 : decide (k < n) = false := by simp [h1]
      have hXY : L.drop k = X ∧ K.drop k = Y := by
        have h := hC.out
        have e : L.drop k = [] := List.drop_eq_nil_of_le (by rw [← HNs.out]; omega)
        rw [e, cut_nil_left] at h
        rw [e]
        exact ⟨congrArg Prod.fst h, congrArg Prod.snd h⟩
      have HD := Lib.hid hXY
      clear hXY
      exfalso
      have h := HHD.out
      have e : X = [] := by rw [← HD.out.1]; exact List.drop_eq_nil_of_le (by rw [← HNs.out]; omega)
      rw [e] at h
      cases h

set_option maxHeartbeats 3200000 in
theorem srel_nn (s t : ByteArray) (r : Bool) (w : World) (hs : s.size ≤ 1073741824) (ht : t.size ≤ 1073741824) (hrs : M.ro s.data.toList = r) (hrt : M.ro t.data.toList = r) (X Y : List (List UInt8)) (hX : M.cut (M.E r s.data.toList) (M.E r t.data.toList) = (X, Y)) (hhd : ∀ e ∈ X, e ≠ M.dd) (o : ByteArray) (ho : S (clean (S (M.J (List.replicate X.length M.dd ++ Y))).data.toList) = o)
    (hsz : (List.replicate X.length M.dd ++ Y).length ≤ 4611686018427387904 ∧ (M.J (List.replicate X.length M.dd ++ Y)).length ≤ 4611686018427387904 ∧ (S (M.J (List.replicate X.length M.dd ++ Y))).size ≤ 549755813888) :
    Calls Try.prog 21 #[.string s, .string t] w (ImplRel (some (clean (M.J (List.replicate X.length M.dd ++ Y)))) w) := by
  obtain ⟨i0, hi, hz0, hz1, hz2⟩ := info_parts str_info
  have hls := M.E_len r s.data.toList
  have hlt' := M.E_len r t.data.toList
  rw [← Lib.size_eq] at hls hlt'
  obtain ⟨L, hL⟩ : ∃ L, M.E r s.data.toList = L := ⟨_, rfl⟩
  obtain ⟨K, hK⟩ : ∃ K, M.E r t.data.toList = K := ⟨_, rfl⟩
  rw [hL] at hls hX
  rw [hK] at hlt' hX
  obtain ⟨n, hn⟩ : ∃ n, n = L.length := ⟨_, rfl⟩
  obtain ⟨m, hm⟩ : ∃ m, m = K.length := ⟨_, rfl⟩
  rw [← hn] at hls
  rw [← hm] at hlt'
  have HEs := Lib.hid (fun W => spec_Elements_any s W n L (by omega) (by rw [hrs]; exact hL) hn)
  have HEt := Lib.hid (fun W => spec_Elements_any t W m K (by omega) (by rw [hrt]; exact hK) hm)
  have HNs := Lib.hid hn
  have HNt := Lib.hid hm
  have HRs := Lib.hid hrs
  have HRt := Lib.hid hrt
  have HXY := Lib.hid hX
  have HNM := Lib.hid hhd
  have HO := Lib.hid ho
  have HSZ := Lib.hid hsz
  clear hL hK hn hm hrs hrt hX hhd ho hsz
  go_enter Try.func21, Try.ntmps21
  go_wp2_with fail
  refine (spec_Rooted_is s r _ (by omega) HRs.out).mono ?_
  rintro e w' ⟨rfl, rfl⟩
  go_wp2_with fail
  refine (spec_Rooted_is t r _ (by omega) HRt.out).mono ?_
  rintro e w' ⟨rfl, rfl⟩
  go_wp2_with fail
  refine (HEs.out _).mono ?_
  rintro e w1 ⟨A, cs, rfl, hcs, hrA, hb1⟩
  have HB1 := Lib.hid hb1
  have HA1 := Lib.hid hrA
  clear hb1 hrA
  go_wp2_with fail
  refine (HEt.out _).mono ?_
  rintro e w2 ⟨B, ct, rfl, hct, hrB, hb2⟩
  have HB2 := Lib.hid (below_trans HB1.out hb2)
  have HA := Lib.hid ((HA1.out.below hb2).more hb2.size)
  have HBr := Lib.hid hrB
  clear hb2 hrB HA1 HB1
  go_wp2_with fail
  go_loopw [8] (fun i wr => ∃ k : Nat, k ≤ n ∧ k ≤ m ∧ i = .int .i64 k ∧ Hid (M.cut (L.drop k) (K.drop k) = (X, Y)) ∧ Hid (Below w2.heap.size w2 wr)) (fun i _ => n - (RowKit.intOf i).toNat)
  case atStart => exact ⟨0, Nat.zero_le _, Nat.zero_le _, rfl, HXY.out, Below.refl _ _⟩
  case round =>
    obtain ⟨k, hkn, hkm, rfl, hC, hb3⟩ := hrel
    have hsz := hb3.out.size
    by_cases h1 : k < n
    · by_cases h2 : k < m
      · obtain ⟨ada, x, rfl, hba, hx, hca⟩ := (HA.out.below hb3.out).cell_at h1 HNs.out
        obtain ⟨adb, y, rfl, hbb, hy, hcb⟩ := (HBr.out.below hb3.out).cell_at h2 HNt.out
        have te := S_beq' x y
        have hdx := drop_at hx
        have hdy := drop_at hy
        have d1 : decide (k < n) = true := by simp [h1]
        have d2 : decide (k < m) = true := by simp [h2]
        generalize S x = x' at hca te
        generalize S y = y' at hcb te
        have HX := Lib.hid hdx
        have HY := Lib.hid hdy
        clear hdx hdy hx hy
        by_cases hxy : x = y
        · have v1 : (x'.toList == y'.toList) = true := by rw [te]; simp [hxy]
          have hC2 : M.cut (L.drop (k + 1)) (K.drop (k + 1)) = (X, Y) := by
            have h := hC.out
            rw [HX.out, HY.out, hxy, cut_same] at h
            exact h
          have HC2 := Lib.hid hC2
          clear te hC2 hxy
          go_wp2_with fail
          go_quiet (fail)
          go_wp2_with fail
          go_roundw
          case rel => exact ⟨k + 1, by omega, by omega, by go_num, HC2.out, below_drewN hb3.out _⟩
          case measure => simp [RowKit.intOf]; omega
        · have v1 : (x'.toList == y'.toList) = false := by rw [te]; simp [hxy]
          have hXY : L.drop k = X ∧ K.drop k = Y := by
            have h := hC.out
            rw [HX.out, HY.out, cut_diff hxy] at h
            rw [HX.out, HY.out]
            exact ⟨congrArg Prod.fst h, congrArg Prod.snd h⟩
          have HD := Lib.hid hXY
          clear te hXY hxy
          skip
          have hq1 : (k : Int) ≤ (n : Int) := by omega
          have hq2 : (k : Int) ≤ (m : Int) := by omega
          have hq0 : (0 : Int) ≤ (k : Int) := by omega
          have hpX : n - k = X.length := by rw [← HD.out.1, List.length_drop, ← HNs.out]
          have hpY : m - k = Y.length := by rw [← HD.out.2, List.length_drop, ← HNt.out]
          have HPX := Lib.hid hpX
          have HPY := Lib.hid hpY
          have hcA := HA.out.cut (k := k) (cap := cs) hkn hcs
          have hcB := HBr.out.cut (k := k) (cap := ct) hkm hct
          rw [Nat.mul_one] at hcA hcB
          have eA : (vals L).drop k = vals X := by rw [← HD.out.1]; unfold vals; rw [List.map_drop]
          have eB : (vals K).drop k = vals Y := by rw [← HD.out.2]; unfold vals; rw [List.map_drop]
          rw [eA] at hcA
          rw [eB] at hcB
          clear eA eB hpX hpY
          rw [if_neg (show ¬ cs = k by omega)] at hcA
          simp only [Option.map_some] at hcA
          rw [if_neg (show ¬ ct = k by omega)] at hcB
          simp only [Option.map_some] at hcB
          have HcA := Lib.hid hcA
          have HcB := Lib.hid hcB
          clear hcA hcB
          go_wp2_with fail
          go_quiet (fail)
          go_wp2_with fail
          go_loopw [9, 49] (fun lv i wr => ∃ j : Nat, j ≤ n - k ∧ i = .int .i64 j ∧ Hid (wr.ownsRow w2.heap.size 9 1 lv j (vals (List.replicate j M.dd))) ∧ Hid (Below w2.heap.size w2 wr)) (fun _ i _ => (n - k) - (RowKit.intOf i).toNat)
          case atStart =>
            exact ⟨0, Nat.zero_le _, rfl, ⟨rfl, .inr ⟨_, 0, #[], rfl, hsz, heap_alloc_new _ _, Nat.le_refl _, by decide, rfl, rfl⟩⟩, (below_drewN hb3.out _).alloc hsz _⟩
          case round =>
            obtain ⟨j, hj, rfl, hown, hb5⟩ := hrel
            have hwz := hb5.out.size
            by_cases hlt : j < n - k
            · obtain ⟨ad2, x2, hae, hb2', hx2, hc2⟩ := (HcA.out.below hb5.out).cell_at hlt HPX.out
              obtain rfl := Option.some.inj hae
              clear hae
              have t2 : ((S x2).toList == [46, 46]) = false := by
                rw [t_is]
                have := HNM.out x2 (List.mem_of_getElem? hx2)
                simpa [M.dd] using this
              generalize S x2 = y2 at hc2 t2
              clear hx2 hb2'
              by_cases hj0 : j = 0
              · subst hj0
                have hce0 : wr.cell? (ada.add k) = some (.string y2) := by rw [add_zero'] at hc2; exact hc2
                clear hc2
                go_wp2_with (at_builtin; refine wpList_append_own _ rfl _ _ 24 rfl w2.heap.size 9 i0 (.string ⟨#[]⟩) 1 16 Try.underlying24 hi hz0 hz1 hz2 rfl (by decide) _ _ _ rfl (hown.out.alloc _) ⟨wr.heap.size, 0, none⟩ 1 1 [.string ⟨#[46, 46]⟩] rfl rfl ?c1 ?c2 ?c3 ?c4 ?c5 ?_)
                case c1 => exact cell_one_new _ _ _
                case c2 => intro u hu; simp at hu; subst hu; rfl
                case c3 => unfold maxLen; omega
                case c4 => omega
                case c5 => simp; omega
                · intro v' w4 hown' hgrow _
                  have e2 : vals (List.replicate 0 M.dd) ++ [.string ⟨#[46, 46]⟩] = vals (List.replicate (0 + 1) M.dd) := by rw [List.replicate_succ', vals_append]; rfl
                  have hb4 : Below w2.heap.size w2 w4 := (hb5.out.alloc hwz _).grown hgrow (by simp; omega) (fun g hg => (hown.out.lt g hg).1)
                  replace hown' : w4.ownsRow w2.heap.size 9 1 v' (0 + 1) (vals (List.replicate (0 + 1) M.dd)) := by rw [← e2]; exact hown'
                  have HO4 := Lib.hid hown'
                  have HB4 := Lib.hid hb4
                  clear hown' hgrow e2 hb4 hown hb5
                  go_wp2_with fail
                  go_roundw
                  case rel => exact ⟨0 + 1, by omega, by go_num, HO4.out, HB4.out⟩
                  case measure => simp [RowKit.intOf]; omega
              · skip
                go_wp2_with (at_builtin; refine wpList_append_own _ rfl _ _ 24 rfl w2.heap.size 9 i0 (.string ⟨#[]⟩) 1 16 Try.underlying24 hi hz0 hz1 hz2 rfl (by decide) _ _ _ rfl (hown.out.alloc _) ⟨wr.heap.size, 0, none⟩ 1 1 [.string ⟨#[46, 46]⟩] rfl rfl ?d1 ?d2 ?d3 ?d4 ?d5 ?_)
                case d1 => exact cell_one_new _ _ _
                case d2 => intro u hu; simp at hu; subst hu; rfl
                case d3 => unfold maxLen; omega
                case d4 => omega
                case d5 => simp; omega
                · intro v' w4 hown' hgrow _
                  have e2 : vals (List.replicate j M.dd) ++ [.string ⟨#[46, 46]⟩] = vals (List.replicate (j + 1) M.dd) := by rw [List.replicate_succ', vals_append]; rfl
                  have hb4 : Below w2.heap.size w2 w4 := (hb5.out.alloc hwz _).grown hgrow (by simp; omega) (fun g hg => (hown.out.lt g hg).1)
                  rw [e2] at hown'
                  have HO4 := Lib.hid hown'
                  have HB4 := Lib.hid hb4
                  clear hown' hgrow e2 hb4 hown hb5
                  go_wp2_with fail
                  go_roundw
                  case rel => exact ⟨j + 1, by omega, by go_num, HO4.out, HB4.out⟩
                  case measure => simp [RowKit.intOf]; omega
            · have hjn : j = n - k := by omega
              have HJN := Lib.hid hjn
              have HR5 := Lib.hid (HcB.out.below hb5.out)
              have kk : j + (m - k) ≤ maxLen ∧ (j + (m - k)) * 16 ≤ 140737488355328 := by unfold maxLen; omega
              have KK := Lib.hid kk
              clear hjn kk
              go_wp2_with (at_builtin; refine wpList_append_any _ rfl (.tmp 59) (.tmp 62) 24 rfl w2.heap.size 9 i0 _ 1 16 Try.underlying24 hi hz0 hz1 hz2 rfl (by decide) _ j (vals (List.replicate j M.dd)) rfl hown.out w2.heap.size (some (adb.add k)) (m - k) (ct - k) (vals Y) rfl HR5.out (vals_one _) KK.out.1 KK.out.2 hwz ?_)
              intro v6 w6 hown6 hg6 _
              have hb6 : Below w2.heap.size w2 w6 := hb5.out.grown hg6 hwz (fun g hg => (hown.out.lt g hg).1)
              have hl6 : (List.replicate X.length M.dd ++ Y).length = j + (m - k) := by rw [List.length_append, List.length_replicate, HJN.out, HPX.out, HPY.out]
              have hrd6 : Rd w6 v6 (List.replicate X.length M.dd ++ Y) := Rd.of_own (base := w2.heap.size) (e := 9) (by
                rw [hl6, vals_append, ← HPX.out, ← HJN.out]; exact hown6)
              have HRd6 := Lib.hid hrd6
              have HB6 := Lib.hid (below_trans HB2.out hb6)
              clear hown6 hg6 hb6 hrd6 hl6
              go_wp2_with fail
              refine (spec_Joined _ (List.replicate X.length M.dd ++ Y) _ HRd6.out HSZ.out.1 HSZ.out.2.1).mono ?_
              rintro e w7 ⟨rfl, rfl⟩
              go_wp2_with fail
              refine (spec_Clean (S (M.J (List.replicate X.length M.dd ++ Y))) o _ HSZ.out.2.2 HO.out).mono ?_
              rintro e w8 ⟨rfl, hb8⟩
              have HB8 := Lib.hid (below_trans HB6.out hb8)
              clear hb8
              go_wp2_with fail
              go_ret2
              exact ⟨by rw [← HO.out, S_toList]; rfl, HB8.out⟩
      · have d1 : decide (k < n) = true := by simp [h1]
        have d2 : decide (k < m) = false := by simp [h2]
        have hXY : L.drop k = X ∧ K.drop k = Y := by
          have h := hC.out
          have e : K.drop k = [] := List.drop_eq_nil_of_le (by rw [← HNt.out]; omega)
          rw [e, cut_nil_right] at h
          rw [e]
          exact ⟨congrArg Prod.fst h, congrArg Prod.snd h⟩
        have HD := Lib.hid hXY
        clear hXY
        obtain ⟨ada, xa, rfl, _, _, _⟩ := HA.out.cell_at h1 HNs.out
        have hq1 : (k : Int) ≤ (n : Int) := by omega
        have hq2 : (k : Int) ≤ (m : Int) := by omega
        have hq0 : (0 : Int) ≤ (k : Int) := by omega
        have hpX : n - k = X.length := by rw [← HD.out.1, List.length_drop, ← HNs.out]
        have hpY : m - k = Y.length := by rw [← HD.out.2, List.length_drop, ← HNt.out]
        have HPX := Lib.hid hpX
        have HPY := Lib.hid hpY
        have hcA := HA.out.cut (k := k) (cap := cs) hkn hcs
        have hcB := HBr.out.cut (k := k) (cap := ct) hkm hct
        rw [Nat.mul_one] at hcA hcB
        have eA : (vals L).drop k = vals X := by rw [← HD.out.1]; unfold vals; rw [List.map_drop]
        have eB : (vals K).drop k = vals Y := by rw [← HD.out.2]; unfold vals; rw [List.map_drop]
        rw [eA] at hcA
        rw [eB] at hcB
        clear eA eB hpX hpY
        rw [if_neg (show ¬ cs = k by omega)] at hcA
        simp only [Option.map_some] at hcA
        generalize hB2 : (if ct = k then B else B.map (·.add k)) = B2 at hcB
        have HcA := Lib.hid hcA
        have HcB := Lib.hid hcB
        clear hcA hcB
        go_wp2_with fail
        go_quiet (fail)
        go_wp2_with fail
        go_loopw [9, 49] (fun lv i wr => ∃ j : Nat, j ≤ n - k ∧ i = .int .i64 j ∧ Hid (wr.ownsRow w2.heap.size 9 1 lv j (vals (List.replicate j M.dd))) ∧ Hid (Below w2.heap.size w2 wr)) (fun _ i _ => (n - k) - (RowKit.intOf i).toNat)
        case atStart =>
          exact ⟨0, Nat.zero_le _, rfl, ⟨rfl, .inr ⟨_, 0, #[], rfl, hsz, heap_alloc_new _ _, Nat.le_refl _, by decide, rfl, rfl⟩⟩, (below_drewN hb3.out _).alloc hsz _⟩
        case round =>
          obtain ⟨j, hj, rfl, hown, hb5⟩ := hrel
          have hwz := hb5.out.size
          by_cases hlt : j < n - k
          · obtain ⟨ad2, x2, hae, hb2', hx2, hc2⟩ := (HcA.out.below hb5.out).cell_at hlt HPX.out
            obtain rfl := Option.some.inj hae
            clear hae
            have t2 : ((S x2).toList == [46, 46]) = false := by
              rw [t_is]
              have := HNM.out x2 (List.mem_of_getElem? hx2)
              simpa [M.dd] using this
            generalize S x2 = y2 at hc2 t2
            clear hx2 hb2'
            by_cases hj0 : j = 0
            · subst hj0
              have hce0 : wr.cell? (ada.add k) = some (.string y2) := by rw [add_zero'] at hc2; exact hc2
              clear hc2
              go_wp2_with (at_builtin; refine wpList_append_own _ rfl _ _ 24 rfl w2.heap.size 9 i0 (.string ⟨#[]⟩) 1 16 Try.underlying24 hi hz0 hz1 hz2 rfl (by decide) _ _ _ rfl (hown.out.alloc _) ⟨wr.heap.size, 0, none⟩ 1 1 [.string ⟨#[46, 46]⟩] rfl rfl ?c1 ?c2 ?c3 ?c4 ?c5 ?_)
              case c1 => exact cell_one_new _ _ _
              case c2 => intro u hu; simp at hu; subst hu; rfl
              case c3 => unfold maxLen; omega
              case c4 => omega
              case c5 => simp; omega
              · intro v' w4 hown' hgrow _
                have e2 : vals (List.replicate 0 M.dd) ++ [.string ⟨#[46, 46]⟩] = vals (List.replicate (0 + 1) M.dd) := by rw [List.replicate_succ', vals_append]; rfl
                have hb4 : Below w2.heap.size w2 w4 := (hb5.out.alloc hwz _).grown hgrow (by simp; omega) (fun g hg => (hown.out.lt g hg).1)
                replace hown' : w4.ownsRow w2.heap.size 9 1 v' (0 + 1) (vals (List.replicate (0 + 1) M.dd)) := by rw [← e2]; exact hown'
                have HO4 := Lib.hid hown'
                have HB4 := Lib.hid hb4
                clear hown' hgrow e2 hb4 hown hb5
                go_wp2_with fail
                go_roundw
                case rel => exact ⟨0 + 1, by omega, by go_num, HO4.out, HB4.out⟩
                case measure => simp [RowKit.intOf]; omega
            · skip
              go_wp2_with (at_builtin; refine wpList_append_own _ rfl _ _ 24 rfl w2.heap.size 9 i0 (.string ⟨#[]⟩) 1 16 Try.underlying24 hi hz0 hz1 hz2 rfl (by decide) _ _ _ rfl (hown.out.alloc _) ⟨wr.heap.size, 0, none⟩ 1 1 [.string ⟨#[46, 46]⟩] rfl rfl ?d1 ?d2 ?d3 ?d4 ?d5 ?_)
              case d1 => exact cell_one_new _ _ _
              case d2 => intro u hu; simp at hu; subst hu; rfl
              case d3 => unfold maxLen; omega
              case d4 => omega
              case d5 => simp; omega
              · intro v' w4 hown' hgrow _
                have e2 : vals (List.replicate j M.dd) ++ [.string ⟨#[46, 46]⟩] = vals (List.replicate (j + 1) M.dd) := by rw [List.replicate_succ', vals_append]; rfl
                have hb4 : Below w2.heap.size w2 w4 := (hb5.out.alloc hwz _).grown hgrow (by simp; omega) (fun g hg => (hown.out.lt g hg).1)
                rw [e2] at hown'
                have HO4 := Lib.hid hown'
                have HB4 := Lib.hid hb4
                clear hown' hgrow e2 hb4 hown hb5
                go_wp2_with fail
                go_roundw
                case rel => exact ⟨j + 1, by omega, by go_num, HO4.out, HB4.out⟩
                case measure => simp [RowKit.intOf]; omega
          · have hjn : j = n - k := by omega
            have HJN := Lib.hid hjn
            have HR5 := Lib.hid (HcB.out.below hb5.out)
            have kk : j + (m - k) ≤ maxLen ∧ (j + (m - k)) * 16 ≤ 140737488355328 := by unfold maxLen; omega
            have KK := Lib.hid kk
            clear hjn kk
            go_wp2_with (at_builtin; refine wpList_append_any _ rfl (.tmp 59) (.tmp 62) 24 rfl w2.heap.size 9 i0 _ 1 16 Try.underlying24 hi hz0 hz1 hz2 rfl (by decide) _ j (vals (List.replicate j M.dd)) rfl hown.out w2.heap.size B2 (m - k) (ct - k) (vals Y) rfl HR5.out (vals_one _) KK.out.1 KK.out.2 hwz ?_)
            intro v6 w6 hown6 hg6 _
            have hb6 : Below w2.heap.size w2 w6 := hb5.out.grown hg6 hwz (fun g hg => (hown.out.lt g hg).1)
            have hl6 : (List.replicate X.length M.dd ++ Y).length = j + (m - k) := by rw [List.length_append, List.length_replicate, HJN.out, HPX.out, HPY.out]
            have hrd6 : Rd w6 v6 (List.replicate X.length M.dd ++ Y) := Rd.of_own (base := w2.heap.size) (e := 9) (by
              rw [hl6, vals_append, ← HPX.out, ← HJN.out]; exact hown6)
            have HRd6 := Lib.hid hrd6
            have HB6 := Lib.hid (below_trans HB2.out hb6)
            clear hown6 hg6 hb6 hrd6 hl6
            go_wp2_with fail
            refine (spec_Joined _ (List.replicate X.length M.dd ++ Y) _ HRd6.out HSZ.out.1 HSZ.out.2.1).mono ?_
            rintro e w7 ⟨rfl, rfl⟩
            go_wp2_with fail
            refine (spec_Clean (S (M.J (List.replicate X.length M.dd ++ Y))) o _ HSZ.out.2.2 HO.out).mono ?_
            rintro e w8 ⟨rfl, hb8⟩
            have HB8 := Lib.hid (below_trans HB6.out hb8)
            clear hb8
            go_wp2_with fail
            go_ret2
            exact ⟨by rw [← HO.out, S_toList]; rfl, HB8.out⟩
    · have d1 : decide (k < n) = false := by simp [h1]
      have hXY : L.drop k = X ∧ K.drop k = Y := by
        have h := hC.out
        have e : L.drop k = [] := List.drop_eq_nil_of_le (by rw [← HNs.out]; omega)
        rw [e, cut_nil_left] at h
        rw [e]
        exact ⟨congrArg Prod.fst h, congrArg Prod.snd h⟩
      have HD := Lib.hid hXY
      clear hXY
      skip
      have hq1 : (k : Int) ≤ (n : Int) := by omega
      have hq2 : (k : Int) ≤ (m : Int) := by omega
      have hq0 : (0 : Int) ≤ (k : Int) := by omega
      have hpX : n - k = X.length := by rw [← HD.out.1, List.length_drop, ← HNs.out]
      have hpY : m - k = Y.length := by rw [← HD.out.2, List.length_drop, ← HNt.out]
      have HPX := Lib.hid hpX
      have HPY := Lib.hid hpY
      have hcA := HA.out.cut (k := k) (cap := cs) hkn hcs
      have hcB := HBr.out.cut (k := k) (cap := ct) hkm hct
      rw [Nat.mul_one] at hcA hcB
      have eA : (vals L).drop k = vals X := by rw [← HD.out.1]; unfold vals; rw [List.map_drop]
      have eB : (vals K).drop k = vals Y := by rw [← HD.out.2]; unfold vals; rw [List.map_drop]
      rw [eA] at hcA
      rw [eB] at hcB
      clear eA eB hpX hpY
      generalize hA2 : (if cs = k then A else A.map (·.add k)) = A2 at hcA
      generalize hB2 : (if ct = k then B else B.map (·.add k)) = B2 at hcB
      have HcA := Lib.hid hcA
      have HcB := Lib.hid hcB
      clear hcA hcB
      go_wp2_with fail
      go_quiet (fail)
      go_wp2_with fail
      go_loopw [9, 49] (fun lv i wr => ∃ j : Nat, j ≤ n - k ∧ i = .int .i64 j ∧ Hid (wr.ownsRow w2.heap.size 9 1 lv j (vals (List.replicate j M.dd))) ∧ Hid (Below w2.heap.size w2 wr)) (fun _ i _ => (n - k) - (RowKit.intOf i).toNat)
      case atStart =>
        exact ⟨0, Nat.zero_le _, rfl, ⟨rfl, .inr ⟨_, 0, #[], rfl, hsz, heap_alloc_new _ _, Nat.le_refl _, by decide, rfl, rfl⟩⟩, (below_drewN hb3.out _).alloc hsz _⟩
      case round =>
        obtain ⟨j, hj, rfl, hown, hb5⟩ := hrel
        have hwz := hb5.out.size
        by_cases hlt : j < n - k
        · exfalso; omega
        · have hjn : j = n - k := by omega
          have HJN := Lib.hid hjn
          have HR5 := Lib.hid (HcB.out.below hb5.out)
          have kk : j + (m - k) ≤ maxLen ∧ (j + (m - k)) * 16 ≤ 140737488355328 := by unfold maxLen; omega
          have KK := Lib.hid kk
          clear hjn kk
          go_wp2_with (at_builtin; refine wpList_append_any _ rfl (.tmp 59) (.tmp 62) 24 rfl w2.heap.size 9 i0 _ 1 16 Try.underlying24 hi hz0 hz1 hz2 rfl (by decide) _ j (vals (List.replicate j M.dd)) rfl hown.out w2.heap.size B2 (m - k) (ct - k) (vals Y) rfl HR5.out (vals_one _) KK.out.1 KK.out.2 hwz ?_)
          intro v6 w6 hown6 hg6 _
          have hb6 : Below w2.heap.size w2 w6 := hb5.out.grown hg6 hwz (fun g hg => (hown.out.lt g hg).1)
          have hl6 : (List.replicate X.length M.dd ++ Y).length = j + (m - k) := by rw [List.length_append, List.length_replicate, HJN.out, HPX.out, HPY.out]
          have hrd6 : Rd w6 v6 (List.replicate X.length M.dd ++ Y) := Rd.of_own (base := w2.heap.size) (e := 9) (by
            rw [hl6, vals_append, ← HPX.out, ← HJN.out]; exact hown6)
          have HRd6 := Lib.hid hrd6
          have HB6 := Lib.hid (below_trans HB2.out hb6)
          clear hown6 hg6 hb6 hrd6 hl6
          go_wp2_with fail
          refine (spec_Joined _ (List.replicate X.length M.dd ++ Y) _ HRd6.out HSZ.out.1 HSZ.out.2.1).mono ?_
          rintro e w7 ⟨rfl, rfl⟩
          go_wp2_with fail
          refine (spec_Clean (S (M.J (List.replicate X.length M.dd ++ Y))) o _ HSZ.out.2.2 HO.out).mono ?_
          rintro e w8 ⟨rfl, hb8⟩
          have HB8 := Lib.hid (below_trans HB6.out hb8)
          clear hb8
          go_wp2_with fail
          go_ret2
          exact ⟨by rw [← HO.out, S_toList]; rfl, HB8.out⟩

theorem spec_Rel_same (s t : ByteArray) (r : Bool) (w : World) (hs : s.size ≤ 1073741824) (ht : t.size ≤ 1073741824) (hrs : M.ro s.data.toList = r) (hrt : M.ro t.data.toList = r) :
    Calls Try.prog 21 #[.string s, .string t] w (ImplRel (M.relOut (M.E r s.data.toList) (M.E r t.data.toList)) w) := by
  obtain ⟨X, Y, hX⟩ : ∃ X Y, M.cut (M.E r s.data.toList) (M.E r t.data.toList) = (X, Y) := ⟨_, _, rfl⟩
  unfold M.relOut
  rw [hX]
  obtain ⟨C, h1, h2, _⟩ := M.cut_spec (M.E r s.data.toList) (M.E r t.data.toList)
  rw [hX] at h1 h2
  simp only at h1 h2
  have hws := M.wt_E r s.data.toList
  have hwt := M.wt_E r t.data.toList
  rw [h1, M.wt_app] at hws
  rw [h2, M.wt_app] at hwt
  rw [← Lib.size_eq] at hws hwt
  have hlx := M.len_le_wt X
  have hly := M.len_le_wt Y
  have hstd : M.Std X := (show M.Std (C ++ X) from h1 ▸ M.std_E r s.data.toList).suffix
  by_cases hh : X.head? = some M.dd
  · rw [if_pos hh]
    exact srel_dd s t r w hs ht hrs hrt X Y hX hh
  · rw [if_neg hh]
    have hw : M.wt (List.replicate X.length M.dd ++ Y) = 3 * X.length + M.wt Y := by rw [M.wt_app, M.wt_dds]
    have hj := M.J_le_wt (List.replicate X.length M.dd ++ Y)
    have hsz := S_size (M.J (List.replicate X.length M.dd ++ Y))
    exact srel_nn s t r w hs ht hrs hrt X Y hX (hstd.names hh) _ rfl ⟨by rw [List.length_append, List.length_replicate]; omega, by omega, by omega⟩

theorem spec_Rel_mixed (s t : ByteArray) (w : World) (hs : s.size ≤ 1073741824) (ht : t.size ≤ 1073741824) (hro : M.ro s.data.toList ≠ M.ro t.data.toList) :
    Calls Try.prog 21 #[.string s, .string t] w (ImplRel none w) := by
  cases hrs : M.ro s.data.toList <;> cases hrt : M.ro t.data.toList
  · exact absurd (hrs.trans hrt.symm) hro
  · have HRs := Lib.hid hrs
    have HRt := Lib.hid hrt
    clear hrs hrt hro
    go_enter Try.func21, Try.ntmps21
    go_wp2_with fail
    refine (spec_Rooted_is s false _ (by omega) HRs.out).mono ?_
    rintro e w' ⟨rfl, rfl⟩
    go_wp2_with fail
    refine (spec_Rooted_is t true _ (by omega) HRt.out).mono ?_
    rintro e w' ⟨rfl, rfl⟩
    go_wp2_with fail
    go_ret2
    exact ⟨rfl, Below.refl _ _⟩
  · have HRs := Lib.hid hrs
    have HRt := Lib.hid hrt
    clear hrs hrt hro
    go_enter Try.func21, Try.ntmps21
    go_wp2_with fail
    refine (spec_Rooted_is s true _ (by omega) HRs.out).mono ?_
    rintro e w' ⟨rfl, rfl⟩
    go_wp2_with fail
    refine (spec_Rooted_is t false _ (by omega) HRt.out).mono ?_
    rintro e w' ⟨rfl, rfl⟩
    go_wp2_with fail
    go_ret2
    exact ⟨rfl, Below.refl _ _⟩
  · exact absurd (hrs.trans hrt.symm) hro

end Go.Proofs.Ytedaekkpnjcojaa
