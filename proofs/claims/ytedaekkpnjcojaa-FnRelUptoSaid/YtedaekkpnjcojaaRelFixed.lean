/-
  The contract of spec.RelFixed: what it tells is enough for the contract of Rel.
-/
import Derived.Test.YtedaekkpnjcojaaJoin
namespace Go.Proofs.Ytedaekkpnjcojaa
open Go.RowKit Go.Lib
open Go.Lib.Pa (clean isAbs split ext base dir els)

theorem Rd_cells {w : World} {ad : Addr} {n c : Nat} {L : List (List UInt8)} (h : Rd w (.slice (some ad) n c) L) (h0 : 0 < n) (j : Nat) (x : List UInt8) (hx : L[j]? = some x) : w.cell? (ad.add j) = some (.string (S x)) := by
  obtain ⟨A, c', hv, hc, hr⟩ := h
  injection hv with h1 h2 h3
  obtain ⟨ad', e, _, hcell⟩ := hr.2 (by omega)
  rw [e] at h1
  injection h1 with h1
  subst h1
  exact hcell j _ (by unfold vals; rw [List.getElem?_map, hx]; rfl)
theorem S_beq' (a b : List UInt8) : ((S a).toList == (S b).toList) = decide (a = b) := by
  rw [Lib.toList_data, Lib.toList_data, S_toList, S_toList, Bool.eq_iff_iff]; simp

/-- of two paths that are both rooted, or neither: the target is not where relative paths begin, or the base is that place too -/
def FixOk (s t : List UInt8) : Prop := ∀ r, M.ro s = r → M.ro t = r → r = false → M.E r t = [] → M.E r s = []
def Fixed (s t : List UInt8) (w : World) (e : Ending) (w' : World) : Prop := ∃ bl, e = .returned (.bool bl) ∧ (bl = true → FixOk s t) ∧ Below w.heap.size w w'

set_option maxHeartbeats 800000 in
theorem fixed_true_a_b (s t : ByteArray) (w : World) (hs : s.size ≤ 1073741824) (ht : t.size ≤ 1073741824) (hrs : M.ro s.data.toList = true) (hrt : M.ro t.data.toList = true)
    (hL : M.E true s.data.toList = []) (hK : M.E true t.data.toList = []) (hfx : FixOk s.data.toList t.data.toList ∨ False) :
    Calls Try.prog 20 #[.string s, .string t] w (Fixed s.data.toList t.data.toList w) := by
  have hls := M.E_len true s.data.toList
  have hlt' := M.E_len true t.data.toList
  rw [← Lib.size_eq] at hls hlt'
  have HRs := Lib.hid hrs
  have HRt := Lib.hid hrt
  have HEs := Lib.hid (fun W => spec_Elements_nil s W (by omega) (by rw [hrs]; exact hL))
  clear hL hls
  have HEt := Lib.hid (fun W => spec_Elements_nil t W (by omega) (by rw [hrt]; exact hK))
  clear hK hlt'
  have HFX := Lib.hid (hfx.resolve_right id)
  clear hfx
  clear hrs hrt
  go_enter Try.func20, Try.ntmps20
  go_wp2_with fail
  refine (spec_Rooted_is s true _ (by omega) HRs.out).mono ?_
  rintro e w' ⟨rfl, rfl⟩
  go_wp2_with fail
  refine (spec_Rooted_is t true _ (by omega) HRt.out).mono ?_
  rintro e w' ⟨rfl, rfl⟩
  go_wp2_with fail
  refine (HEs.out _).mono ?_
  rintro e w1 ⟨As, cs, rfl, hb1⟩
  have HB1 := Lib.hid hb1
  have HBs1 := Lib.hid hb1
  clear hb1
  go_wp2_with fail
  refine (HEt.out _).mono ?_
  rintro e w2 ⟨At, ct, rfl, hb2⟩
  have HB2 := Lib.hid (below_trans HB1.out hb2)
  have HBs2 := Lib.hid hb2
  clear hb2
  go_wp2_with fail
  refine (spec_Rooted_is t true _ (by omega) HRt.out).mono ?_
  rintro e w' ⟨rfl, rfl⟩
  go_wp2_with fail
  go_ret
  exact ⟨true, rfl, fun _ => HFX.out, HB2.out⟩

set_option maxHeartbeats 800000 in
theorem fixed_true_a_bb (s t : ByteArray) (w : World) (hs : s.size ≤ 1073741824) (ht : t.size ≤ 1073741824) (hrs : M.ro s.data.toList = true) (hrt : M.ro t.data.toList = true)
    (hL : M.E true s.data.toList = []) (hK : M.E true t.data.toList ≠ []) (hfx : FixOk s.data.toList t.data.toList ∨ False) :
    Calls Try.prog 20 #[.string s, .string t] w (Fixed s.data.toList t.data.toList w) := by
  have hls := M.E_len true s.data.toList
  have hlt' := M.E_len true t.data.toList
  rw [← Lib.size_eq] at hls hlt'
  have HRs := Lib.hid hrs
  have HRt := Lib.hid hrt
  have HEs := Lib.hid (fun W => spec_Elements_nil s W (by omega) (by rw [hrs]; exact hL))
  clear hL hls
  obtain ⟨K, hKe⟩ : ∃ K, M.E true t.data.toList = K := ⟨_, rfl⟩
  rw [hKe] at hK hlt'
  obtain ⟨m, hm⟩ : ∃ m, m = K.length := ⟨_, rfl⟩
  have hm0 : 0 < m := by rw [hm]; exact List.length_pos_iff.2 hK
  have hmz : ((m : Int) == 0) = false := by simp; omega
  have hmb : m ≤ 1073741825 := by omega
  have HEt := Lib.hid (fun W => spec_Elements_cons t W m K (by omega) (by rw [hrt]; exact hKe) hm hm0)
  have HNt := Lib.hid hm
  clear hK hlt' hKe hm
  have HFX := Lib.hid (hfx.resolve_right id)
  clear hfx
  clear hrs hrt
  go_enter Try.func20, Try.ntmps20
  go_wp2_with fail
  refine (spec_Rooted_is s true _ (by omega) HRs.out).mono ?_
  rintro e w' ⟨rfl, rfl⟩
  go_wp2_with fail
  refine (spec_Rooted_is t true _ (by omega) HRt.out).mono ?_
  rintro e w' ⟨rfl, rfl⟩
  go_wp2_with fail
  refine (HEs.out _).mono ?_
  rintro e w1 ⟨As, cs, rfl, hb1⟩
  have HB1 := Lib.hid hb1
  have HBs1 := Lib.hid hb1
  clear hb1
  go_wp2_with fail
  refine (HEt.out _).mono ?_
  rintro e w2 ⟨adt, ct, rfl, hct, hRdt, _, hb2⟩
  have HRdt := Lib.hid hRdt
  have HB2 := Lib.hid (below_trans HB1.out hb2)
  have HBs2 := Lib.hid hb2
  clear hb2 hRdt
  go_wp2_with fail
  refine (spec_Rooted_is t true _ (by omega) HRt.out).mono ?_
  rintro e w' ⟨rfl, rfl⟩
  go_wp2_with fail
  go_ret
  exact ⟨true, rfl, fun _ => HFX.out, HB2.out⟩

set_option maxHeartbeats 800000 in
theorem fixed_true_aa_b (s t : ByteArray) (w : World) (hs : s.size ≤ 1073741824) (ht : t.size ≤ 1073741824) (hrs : M.ro s.data.toList = true) (hrt : M.ro t.data.toList = true)
    (hL : M.E true s.data.toList ≠ []) (hK : M.E true t.data.toList = []) (hfx : FixOk s.data.toList t.data.toList ∨ False) :
    Calls Try.prog 20 #[.string s, .string t] w (Fixed s.data.toList t.data.toList w) := by
  have hls := M.E_len true s.data.toList
  have hlt' := M.E_len true t.data.toList
  rw [← Lib.size_eq] at hls hlt'
  have HRs := Lib.hid hrs
  have HRt := Lib.hid hrt
  obtain ⟨L, hLe⟩ : ∃ L, M.E true s.data.toList = L := ⟨_, rfl⟩
  rw [hLe] at hL hls
  obtain ⟨n, hn⟩ : ∃ n, n = L.length := ⟨_, rfl⟩
  have hn0 : 0 < n := by rw [hn]; exact List.length_pos_iff.2 hL
  have hnz : ((n : Int) == 0) = false := by simp; omega
  have hnb : n ≤ 1073741825 := by omega
  have HEs := Lib.hid (fun W => spec_Elements_cons s W n L (by omega) (by rw [hrs]; exact hLe) hn hn0)
  have HNs := Lib.hid hn
  clear hL hls hLe hn
  have HEt := Lib.hid (fun W => spec_Elements_nil t W (by omega) (by rw [hrt]; exact hK))
  clear hK hlt'
  have HFX := Lib.hid (hfx.resolve_right id)
  clear hfx
  clear hrs hrt
  go_enter Try.func20, Try.ntmps20
  go_wp2_with fail
  refine (spec_Rooted_is s true _ (by omega) HRs.out).mono ?_
  rintro e w' ⟨rfl, rfl⟩
  go_wp2_with fail
  refine (spec_Rooted_is t true _ (by omega) HRt.out).mono ?_
  rintro e w' ⟨rfl, rfl⟩
  go_wp2_with fail
  refine (HEs.out _).mono ?_
  rintro e w1 ⟨ads, cs, rfl, hcs, hRds, _, hb1⟩
  have HRds := Lib.hid hRds
  have HB1 := Lib.hid hb1
  have HBs1 := Lib.hid hb1
  clear hb1 hRds
  go_wp2_with fail
  refine (HEt.out _).mono ?_
  rintro e w2 ⟨At, ct, rfl, hb2⟩
  have HB2 := Lib.hid (below_trans HB1.out hb2)
  have HBs2 := Lib.hid hb2
  clear hb2
  go_wp2_with fail
  refine (spec_Rooted_is t true _ (by omega) HRt.out).mono ?_
  rintro e w' ⟨rfl, rfl⟩
  have hRd2 := HRds.out.below HBs2.out
  obtain ⟨x, hx⟩ : ∃ x, L[0]? = some x := ⟨L[0]'(by rw [← HNs.out]; omega), List.getElem?_eq_getElem _⟩
  have hce : w2.cell? ads = some (.string (S x)) := by have h := Rd_cells hRd2 hn0 0 x hx; simpa [Addr.add] using h
  have tx := t_is x [46, 46]
  generalize S x = y at hce tx
  clear hx hRd2
  by_cases hxd : x = [46, 46]
  · have u1 : (y.toList == [46, 46]) = true := by rw [tx]; simp [hxd]
    have u2 : (y.toList != [46, 46]) = false := by unfold bne; rw [u1]; rfl
    clear tx hxd
    go_wp2_with fail
    refine wp_loop_rounds 1 ?_
    rw [rounds_succ]
    go_wp2_with fail
    go_ret
    exact ⟨false, rfl, fun h => (by cases h), HB2.out⟩
  · have u1 : (y.toList == [46, 46]) = false := by rw [tx]; simp [hxd]
    have u2 : (y.toList != [46, 46]) = true := by unfold bne; rw [u1]; rfl
    clear tx hxd
    go_wp2_with fail
    go_ret
    exact ⟨true, rfl, fun _ => HFX.out, HB2.out⟩

set_option maxHeartbeats 800000 in
theorem fixed_true_aa_bb (s t : ByteArray) (w : World) (hs : s.size ≤ 1073741824) (ht : t.size ≤ 1073741824) (hrs : M.ro s.data.toList = true) (hrt : M.ro t.data.toList = true)
    (hL : M.E true s.data.toList ≠ []) (hK : M.E true t.data.toList ≠ []) (hfx : FixOk s.data.toList t.data.toList ∨ False) :
    Calls Try.prog 20 #[.string s, .string t] w (Fixed s.data.toList t.data.toList w) := by
  have hls := M.E_len true s.data.toList
  have hlt' := M.E_len true t.data.toList
  rw [← Lib.size_eq] at hls hlt'
  have HRs := Lib.hid hrs
  have HRt := Lib.hid hrt
  obtain ⟨L, hLe⟩ : ∃ L, M.E true s.data.toList = L := ⟨_, rfl⟩
  rw [hLe] at hL hls
  obtain ⟨n, hn⟩ : ∃ n, n = L.length := ⟨_, rfl⟩
  have hn0 : 0 < n := by rw [hn]; exact List.length_pos_iff.2 hL
  have hnz : ((n : Int) == 0) = false := by simp; omega
  have hnb : n ≤ 1073741825 := by omega
  have HEs := Lib.hid (fun W => spec_Elements_cons s W n L (by omega) (by rw [hrs]; exact hLe) hn hn0)
  have HNs := Lib.hid hn
  clear hL hls hLe hn
  obtain ⟨K, hKe⟩ : ∃ K, M.E true t.data.toList = K := ⟨_, rfl⟩
  rw [hKe] at hK hlt'
  obtain ⟨m, hm⟩ : ∃ m, m = K.length := ⟨_, rfl⟩
  have hm0 : 0 < m := by rw [hm]; exact List.length_pos_iff.2 hK
  have hmz : ((m : Int) == 0) = false := by simp; omega
  have hmb : m ≤ 1073741825 := by omega
  have HEt := Lib.hid (fun W => spec_Elements_cons t W m K (by omega) (by rw [hrt]; exact hKe) hm hm0)
  have HNt := Lib.hid hm
  clear hK hlt' hKe hm
  have HFX := Lib.hid (hfx.resolve_right id)
  clear hfx
  clear hrs hrt
  go_enter Try.func20, Try.ntmps20
  go_wp2_with fail
  refine (spec_Rooted_is s true _ (by omega) HRs.out).mono ?_
  rintro e w' ⟨rfl, rfl⟩
  go_wp2_with fail
  refine (spec_Rooted_is t true _ (by omega) HRt.out).mono ?_
  rintro e w' ⟨rfl, rfl⟩
  go_wp2_with fail
  refine (HEs.out _).mono ?_
  rintro e w1 ⟨ads, cs, rfl, hcs, hRds, _, hb1⟩
  have HRds := Lib.hid hRds
  have HB1 := Lib.hid hb1
  have HBs1 := Lib.hid hb1
  clear hb1 hRds
  go_wp2_with fail
  refine (HEt.out _).mono ?_
  rintro e w2 ⟨adt, ct, rfl, hct, hRdt, _, hb2⟩
  have HRdt := Lib.hid hRdt
  have HB2 := Lib.hid (below_trans HB1.out hb2)
  have HBs2 := Lib.hid hb2
  clear hb2 hRdt
  go_wp2_with fail
  refine (spec_Rooted_is t true _ (by omega) HRt.out).mono ?_
  rintro e w' ⟨rfl, rfl⟩
  have hRd2 := HRds.out.below HBs2.out
  by_cases hnm : n ≤ m
  · have d1 : decide (n ≤ m) = true := by simp; omega
    go_wp2_with fail
    go_ret
    exact ⟨true, rfl, fun _ => HFX.out, HB2.out⟩
  · have d1 : decide (n ≤ m) = false := by simp; omega
    have hmn : m < n := by omega
    obtain ⟨x, hx⟩ : ∃ x, L[m]? = some x := ⟨L[m]'(by rw [← HNs.out]; omega), List.getElem?_eq_getElem _⟩
    have hce := Rd_cells hRd2 hn0 m x hx
    have tx := t_is x [46, 46]
    generalize S x = y at hce tx
    clear hx
    by_cases hxd : x = [46, 46]
    · have u1 : (y.toList == [46, 46]) = true := by rw [tx]; simp [hxd]
      have u2 : (y.toList != [46, 46]) = false := by unfold bne; rw [u1]; rfl
      have HRs := Lib.hid hRd2
      clear tx hxd hRd2
      go_wp2_with fail
      go_loop [44] (fun i => ∃ k : Nat, k ≤ m ∧ i = .int .i64 k) (fun i => m - (RowKit.intOf i).toNat)
      case atStart => exact ⟨0, Nat.zero_le _, rfl⟩
      case round =>
        obtain ⟨k, hk, rfl⟩ := hrel
        by_cases hlt : k < m
        · obtain ⟨p, hp⟩ : ∃ p, K[k]? = some p := ⟨K[k]'(by rw [← HNt.out]; omega), List.getElem?_eq_getElem _⟩
          obtain ⟨q, hq⟩ : ∃ q, L[k]? = some q := ⟨L[k]'(by rw [← HNs.out]; omega), List.getElem?_eq_getElem _⟩
          have hcp := Rd_cells HRdt.out hm0 k p hp
          have hcq := Rd_cells HRs.out hn0 k q hq
          have hkn : (k : Int) < (n : Int) := by omega
          have te := S_beq' q p
          generalize S p = p' at hcp te
          generalize S q = q' at hcq te
          clear hp hq
          by_cases hpq : q = p
          · have v1 : (q'.toList == p'.toList) = true := by rw [te]; simp [hpq]
            have v2 : (q'.toList != p'.toList) = false := by unfold bne; rw [v1]; rfl
            clear te hpq
            go_wp2_with fail
            go_round
            case rel => exact ⟨k + 1, by omega, by go_num⟩
            case measure => simp [RowKit.intOf]; omega
          · have v1 : (q'.toList == p'.toList) = false := by rw [te]; simp [hpq]
            have v2 : (q'.toList != p'.toList) = true := by unfold bne; rw [v1]; rfl
            clear te hpq
            go_wp2_with fail
            go_ret
            exact ⟨true, rfl, fun _ => HFX.out, HB2.out⟩
        · have hge : m ≤ k := by omega
          go_wp2_with fail
          go_ret
          exact ⟨false, rfl, fun h => (by cases h), HB2.out⟩
    · have u1 : (y.toList == [46, 46]) = false := by rw [tx]; simp [hxd]
      have u2 : (y.toList != [46, 46]) = true := by unfold bne; rw [u1]; rfl
      clear tx hxd
      go_wp2_with fail
      go_ret
      exact ⟨true, rfl, fun _ => HFX.out, HB2.out⟩

set_option maxHeartbeats 800000 in
theorem fixed_false_a_b (s t : ByteArray) (w : World) (hs : s.size ≤ 1073741824) (ht : t.size ≤ 1073741824) (hrs : M.ro s.data.toList = false) (hrt : M.ro t.data.toList = false)
    (hL : M.E false s.data.toList = []) (hK : M.E false t.data.toList = []) (hfx : FixOk s.data.toList t.data.toList ∨ False) :
    Calls Try.prog 20 #[.string s, .string t] w (Fixed s.data.toList t.data.toList w) := by
  have hls := M.E_len false s.data.toList
  have hlt' := M.E_len false t.data.toList
  rw [← Lib.size_eq] at hls hlt'
  have HRs := Lib.hid hrs
  have HRt := Lib.hid hrt
  have HEs := Lib.hid (fun W => spec_Elements_nil s W (by omega) (by rw [hrs]; exact hL))
  clear hL hls
  have HEt := Lib.hid (fun W => spec_Elements_nil t W (by omega) (by rw [hrt]; exact hK))
  clear hK hlt'
  have HFX := Lib.hid (hfx.resolve_right id)
  clear hfx
  clear hrs hrt
  go_enter Try.func20, Try.ntmps20
  go_wp2_with fail
  refine (spec_Rooted_is s false _ (by omega) HRs.out).mono ?_
  rintro e w' ⟨rfl, rfl⟩
  go_wp2_with fail
  refine (spec_Rooted_is t false _ (by omega) HRt.out).mono ?_
  rintro e w' ⟨rfl, rfl⟩
  go_wp2_with fail
  refine (HEs.out _).mono ?_
  rintro e w1 ⟨As, cs, rfl, hb1⟩
  have HB1 := Lib.hid hb1
  have HBs1 := Lib.hid hb1
  clear hb1
  go_wp2_with fail
  refine (HEt.out _).mono ?_
  rintro e w2 ⟨At, ct, rfl, hb2⟩
  have HB2 := Lib.hid (below_trans HB1.out hb2)
  have HBs2 := Lib.hid hb2
  clear hb2
  go_wp2_with fail
  refine (spec_Rooted_is t false _ (by omega) HRt.out).mono ?_
  rintro e w' ⟨rfl, rfl⟩
  go_wp2_with fail
  go_ret
  exact ⟨true, rfl, fun _ => HFX.out, HB2.out⟩

set_option maxHeartbeats 800000 in
theorem fixed_false_a_bb (s t : ByteArray) (w : World) (hs : s.size ≤ 1073741824) (ht : t.size ≤ 1073741824) (hrs : M.ro s.data.toList = false) (hrt : M.ro t.data.toList = false)
    (hL : M.E false s.data.toList = []) (hK : M.E false t.data.toList ≠ []) (hfx : FixOk s.data.toList t.data.toList ∨ False) :
    Calls Try.prog 20 #[.string s, .string t] w (Fixed s.data.toList t.data.toList w) := by
  have hls := M.E_len false s.data.toList
  have hlt' := M.E_len false t.data.toList
  rw [← Lib.size_eq] at hls hlt'
  have HRs := Lib.hid hrs
  have HRt := Lib.hid hrt
  have HEs := Lib.hid (fun W => spec_Elements_nil s W (by omega) (by rw [hrs]; exact hL))
  clear hL hls
  obtain ⟨K, hKe⟩ : ∃ K, M.E false t.data.toList = K := ⟨_, rfl⟩
  rw [hKe] at hK hlt'
  obtain ⟨m, hm⟩ : ∃ m, m = K.length := ⟨_, rfl⟩
  have hm0 : 0 < m := by rw [hm]; exact List.length_pos_iff.2 hK
  have hmz : ((m : Int) == 0) = false := by simp; omega
  have hmb : m ≤ 1073741825 := by omega
  have HEt := Lib.hid (fun W => spec_Elements_cons t W m K (by omega) (by rw [hrt]; exact hKe) hm hm0)
  have HNt := Lib.hid hm
  clear hK hlt' hKe hm
  have HFX := Lib.hid (hfx.resolve_right id)
  clear hfx
  clear hrs hrt
  go_enter Try.func20, Try.ntmps20
  go_wp2_with fail
  refine (spec_Rooted_is s false _ (by omega) HRs.out).mono ?_
  rintro e w' ⟨rfl, rfl⟩
  go_wp2_with fail
  refine (spec_Rooted_is t false _ (by omega) HRt.out).mono ?_
  rintro e w' ⟨rfl, rfl⟩
  go_wp2_with fail
  refine (HEs.out _).mono ?_
  rintro e w1 ⟨As, cs, rfl, hb1⟩
  have HB1 := Lib.hid hb1
  have HBs1 := Lib.hid hb1
  clear hb1
  go_wp2_with fail
  refine (HEt.out _).mono ?_
  rintro e w2 ⟨adt, ct, rfl, hct, hRdt, _, hb2⟩
  have HRdt := Lib.hid hRdt
  have HB2 := Lib.hid (below_trans HB1.out hb2)
  have HBs2 := Lib.hid hb2
  clear hb2 hRdt
  go_wp2_with fail
  refine (spec_Rooted_is t false _ (by omega) HRt.out).mono ?_
  rintro e w' ⟨rfl, rfl⟩
  go_wp2_with fail
  go_ret
  exact ⟨true, rfl, fun _ => HFX.out, HB2.out⟩

set_option maxHeartbeats 800000 in
theorem fixed_false_aa_b (s t : ByteArray) (w : World) (hs : s.size ≤ 1073741824) (ht : t.size ≤ 1073741824) (hrs : M.ro s.data.toList = false) (hrt : M.ro t.data.toList = false)
    (hL : M.E false s.data.toList ≠ []) (hK : M.E false t.data.toList = []) (_hfx : FixOk s.data.toList t.data.toList ∨ True) :
    Calls Try.prog 20 #[.string s, .string t] w (Fixed s.data.toList t.data.toList w) := by
  have hls := M.E_len false s.data.toList
  have hlt' := M.E_len false t.data.toList
  rw [← Lib.size_eq] at hls hlt'
  have HRs := Lib.hid hrs
  have HRt := Lib.hid hrt
  obtain ⟨L, hLe⟩ : ∃ L, M.E false s.data.toList = L := ⟨_, rfl⟩
  rw [hLe] at hL hls
  obtain ⟨n, hn⟩ : ∃ n, n = L.length := ⟨_, rfl⟩
  have hn0 : 0 < n := by rw [hn]; exact List.length_pos_iff.2 hL
  have hnz : ((n : Int) == 0) = false := by simp; omega
  have hnb : n ≤ 1073741825 := by omega
  have HEs := Lib.hid (fun W => spec_Elements_cons s W n L (by omega) (by rw [hrs]; exact hLe) hn hn0)
  have HNs := Lib.hid hn
  clear hL hls hLe hn
  have HEt := Lib.hid (fun W => spec_Elements_nil t W (by omega) (by rw [hrt]; exact hK))
  clear hK hlt'
  clear hrs hrt
  go_enter Try.func20, Try.ntmps20
  go_wp2_with fail
  refine (spec_Rooted_is s false _ (by omega) HRs.out).mono ?_
  rintro e w' ⟨rfl, rfl⟩
  go_wp2_with fail
  refine (spec_Rooted_is t false _ (by omega) HRt.out).mono ?_
  rintro e w' ⟨rfl, rfl⟩
  go_wp2_with fail
  refine (HEs.out _).mono ?_
  rintro e w1 ⟨ads, cs, rfl, hcs, hRds, _, hb1⟩
  have HRds := Lib.hid hRds
  have HB1 := Lib.hid hb1
  have HBs1 := Lib.hid hb1
  clear hb1 hRds
  go_wp2_with fail
  refine (HEt.out _).mono ?_
  rintro e w2 ⟨At, ct, rfl, hb2⟩
  have HB2 := Lib.hid (below_trans HB1.out hb2)
  have HBs2 := Lib.hid hb2
  clear hb2
  go_wp2_with fail
  refine (spec_Rooted_is t false _ (by omega) HRt.out).mono ?_
  rintro e w' ⟨rfl, rfl⟩
  go_wp2_with fail
  go_ret
  exact ⟨false, rfl, fun h => (by cases h), HB2.out⟩

set_option maxHeartbeats 800000 in
theorem fixed_false_aa_bb (s t : ByteArray) (w : World) (hs : s.size ≤ 1073741824) (ht : t.size ≤ 1073741824) (hrs : M.ro s.data.toList = false) (hrt : M.ro t.data.toList = false)
    (hL : M.E false s.data.toList ≠ []) (hK : M.E false t.data.toList ≠ []) (hfx : FixOk s.data.toList t.data.toList ∨ False) :
    Calls Try.prog 20 #[.string s, .string t] w (Fixed s.data.toList t.data.toList w) := by
  have hls := M.E_len false s.data.toList
  have hlt' := M.E_len false t.data.toList
  rw [← Lib.size_eq] at hls hlt'
  have HRs := Lib.hid hrs
  have HRt := Lib.hid hrt
  obtain ⟨L, hLe⟩ : ∃ L, M.E false s.data.toList = L := ⟨_, rfl⟩
  rw [hLe] at hL hls
  obtain ⟨n, hn⟩ : ∃ n, n = L.length := ⟨_, rfl⟩
  have hn0 : 0 < n := by rw [hn]; exact List.length_pos_iff.2 hL
  have hnz : ((n : Int) == 0) = false := by simp; omega
  have hnb : n ≤ 1073741825 := by omega
  have HEs := Lib.hid (fun W => spec_Elements_cons s W n L (by omega) (by rw [hrs]; exact hLe) hn hn0)
  have HNs := Lib.hid hn
  clear hL hls hLe hn
  obtain ⟨K, hKe⟩ : ∃ K, M.E false t.data.toList = K := ⟨_, rfl⟩
  rw [hKe] at hK hlt'
  obtain ⟨m, hm⟩ : ∃ m, m = K.length := ⟨_, rfl⟩
  have hm0 : 0 < m := by rw [hm]; exact List.length_pos_iff.2 hK
  have hmz : ((m : Int) == 0) = false := by simp; omega
  have hmb : m ≤ 1073741825 := by omega
  have HEt := Lib.hid (fun W => spec_Elements_cons t W m K (by omega) (by rw [hrt]; exact hKe) hm hm0)
  have HNt := Lib.hid hm
  clear hK hlt' hKe hm
  have HFX := Lib.hid (hfx.resolve_right id)
  clear hfx
  clear hrs hrt
  go_enter Try.func20, Try.ntmps20
  go_wp2_with fail
  refine (spec_Rooted_is s false _ (by omega) HRs.out).mono ?_
  rintro e w' ⟨rfl, rfl⟩
  go_wp2_with fail
  refine (spec_Rooted_is t false _ (by omega) HRt.out).mono ?_
  rintro e w' ⟨rfl, rfl⟩
  go_wp2_with fail
  refine (HEs.out _).mono ?_
  rintro e w1 ⟨ads, cs, rfl, hcs, hRds, _, hb1⟩
  have HRds := Lib.hid hRds
  have HB1 := Lib.hid hb1
  have HBs1 := Lib.hid hb1
  clear hb1 hRds
  go_wp2_with fail
  refine (HEt.out _).mono ?_
  rintro e w2 ⟨adt, ct, rfl, hct, hRdt, _, hb2⟩
  have HRdt := Lib.hid hRdt
  have HB2 := Lib.hid (below_trans HB1.out hb2)
  have HBs2 := Lib.hid hb2
  clear hb2 hRdt
  go_wp2_with fail
  refine (spec_Rooted_is t false _ (by omega) HRt.out).mono ?_
  rintro e w' ⟨rfl, rfl⟩
  have hRd2 := HRds.out.below HBs2.out
  by_cases hnm : n ≤ m
  · have d1 : decide (n ≤ m) = true := by simp; omega
    go_wp2_with fail
    go_ret
    exact ⟨true, rfl, fun _ => HFX.out, HB2.out⟩
  · have d1 : decide (n ≤ m) = false := by simp; omega
    have hmn : m < n := by omega
    obtain ⟨x, hx⟩ : ∃ x, L[m]? = some x := ⟨L[m]'(by rw [← HNs.out]; omega), List.getElem?_eq_getElem _⟩
    have hce := Rd_cells hRd2 hn0 m x hx
    have tx := t_is x [46, 46]
    generalize S x = y at hce tx
    clear hx
    by_cases hxd : x = [46, 46]
    · have u1 : (y.toList == [46, 46]) = true := by rw [tx]; simp [hxd]
      have u2 : (y.toList != [46, 46]) = false := by unfold bne; rw [u1]; rfl
      have HRs := Lib.hid hRd2
      clear tx hxd hRd2
      go_wp2_with fail
      go_loop [44] (fun i => ∃ k : Nat, k ≤ m ∧ i = .int .i64 k) (fun i => m - (RowKit.intOf i).toNat)
      case atStart => exact ⟨0, Nat.zero_le _, rfl⟩
      case round =>
        obtain ⟨k, hk, rfl⟩ := hrel
        by_cases hlt : k < m
        · obtain ⟨p, hp⟩ : ∃ p, K[k]? = some p := ⟨K[k]'(by rw [← HNt.out]; omega), List.getElem?_eq_getElem _⟩
          obtain ⟨q, hq⟩ : ∃ q, L[k]? = some q := ⟨L[k]'(by rw [← HNs.out]; omega), List.getElem?_eq_getElem _⟩
          have hcp := Rd_cells HRdt.out hm0 k p hp
          have hcq := Rd_cells HRs.out hn0 k q hq
          have hkn : (k : Int) < (n : Int) := by omega
          have te := S_beq' q p
          generalize S p = p' at hcp te
          generalize S q = q' at hcq te
          clear hp hq
          by_cases hpq : q = p
          · have v1 : (q'.toList == p'.toList) = true := by rw [te]; simp [hpq]
            have v2 : (q'.toList != p'.toList) = false := by unfold bne; rw [v1]; rfl
            clear te hpq
            go_wp2_with fail
            go_round
            case rel => exact ⟨k + 1, by omega, by go_num⟩
            case measure => simp [RowKit.intOf]; omega
          · have v1 : (q'.toList == p'.toList) = false := by rw [te]; simp [hpq]
            have v2 : (q'.toList != p'.toList) = true := by unfold bne; rw [v1]; rfl
            clear te hpq
            go_wp2_with fail
            go_ret
            exact ⟨true, rfl, fun _ => HFX.out, HB2.out⟩
        · have hge : m ≤ k := by omega
          go_wp2_with fail
          go_ret
          exact ⟨false, rfl, fun h => (by cases h), HB2.out⟩
    · have u1 : (y.toList == [46, 46]) = false := by rw [tx]; simp [hxd]
      have u2 : (y.toList != [46, 46]) = true := by unfold bne; rw [u1]; rfl
      clear tx hxd
      go_wp2_with fail
      go_ret
      exact ⟨true, rfl, fun _ => HFX.out, HB2.out⟩

theorem spec_RelFixed (s t : ByteArray) (w : World) (hs : s.size ≤ 1073741824) (ht : t.size ≤ 1073741824) :
    Calls Try.prog 20 #[.string s, .string t] w (Fixed s.data.toList t.data.toList w) := by
  cases hrs : M.ro s.data.toList with
  | true =>
    cases hrt : M.ro t.data.toList with
    | true =>
      have hfx : FixOk s.data.toList t.data.toList := fun r h _ h2 => by rw [← h, hrs] at h2; cases h2
      by_cases hL : M.E true s.data.toList = []
      · by_cases hK : M.E true t.data.toList = []
        · exact fixed_true_a_b s t w hs ht hrs hrt hL hK (.inl hfx)
        · exact fixed_true_a_bb s t w hs ht hrs hrt hL hK (.inl hfx)
      · by_cases hK : M.E true t.data.toList = []
        · exact fixed_true_aa_b s t w hs ht hrs hrt hL hK (.inl hfx)
        · exact fixed_true_aa_bb s t w hs ht hrs hrt hL hK (.inl hfx)
    | false =>
      have hfx : FixOk s.data.toList t.data.toList := fun r h h1 _ => by rw [hrs] at h; rw [hrt, ← h] at h1; cases h1
      have HRs := Lib.hid hrs
      have HRt := Lib.hid hrt
      have HFX := Lib.hid hfx
      clear hrs hrt hfx
      go_enter Try.func20, Try.ntmps20
      go_wp2_with fail
      refine (spec_Rooted_is s true _ (by omega) HRs.out).mono ?_
      rintro e w' ⟨rfl, rfl⟩
      go_wp2_with fail
      refine (spec_Rooted_is t false _ (by omega) HRt.out).mono ?_
      rintro e w' ⟨rfl, rfl⟩
      go_wp2_with fail
      go_ret
      exact ⟨true, rfl, fun _ => HFX.out, Below.refl _ _⟩
  | false =>
    cases hrt : M.ro t.data.toList with
    | true =>
      have hfx : FixOk s.data.toList t.data.toList := fun r h h1 _ => by rw [hrs] at h; rw [hrt, ← h] at h1; cases h1
      have HRs := Lib.hid hrs
      have HRt := Lib.hid hrt
      have HFX := Lib.hid hfx
      clear hrs hrt hfx
      go_enter Try.func20, Try.ntmps20
      go_wp2_with fail
      refine (spec_Rooted_is s false _ (by omega) HRs.out).mono ?_
      rintro e w' ⟨rfl, rfl⟩
      go_wp2_with fail
      refine (spec_Rooted_is t true _ (by omega) HRt.out).mono ?_
      rintro e w' ⟨rfl, rfl⟩
      go_wp2_with fail
      go_ret
      exact ⟨true, rfl, fun _ => HFX.out, Below.refl _ _⟩
    | false =>
      by_cases hL : M.E false s.data.toList = []
      · have hfx : FixOk s.data.toList t.data.toList := fun r _ _ h2 _ => by rw [h2]; exact hL
        by_cases hK : M.E false t.data.toList = []
        · exact fixed_false_a_b s t w hs ht hrs hrt hL hK (.inl hfx)
        · exact fixed_false_a_bb s t w hs ht hrs hrt hL hK (.inl hfx)
      · by_cases hK : M.E false t.data.toList = []
        · exact fixed_false_aa_b s t w hs ht hrs hrt hL hK (.inr trivial)
        · exact fixed_false_aa_bb s t w hs ht hrs hrt hL hK (.inl fun r _ _ h2 h3 => by rw [h2] at h3; exact absurd h3 hK)

end Go.Proofs.Ytedaekkpnjcojaa
