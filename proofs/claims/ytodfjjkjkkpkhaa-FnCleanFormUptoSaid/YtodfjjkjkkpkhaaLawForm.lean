/-
  The walk of FnCleanForm.
-/
import Derived.Test.YtodfjjkjkkpkhaaLawsB2
namespace Go.Proofs.Ytodfjjkjkkpkhaa
open Go.RowKit Go.Lib
open Go.Lib.Pa (clean isAbs split ext base dir els)

theorem nf_true_no_dd : ∀ (st : List (List UInt8)), M.NF true st → ([46, 46] : List UInt8) ∉ st
  | [], _, h => by cases h
  | x :: st, hn, h => by
    rcases List.mem_cons.1 h with e | h
    · rcases hn.2.1 e.symm with ⟨_, h2⟩ | ⟨t, ht⟩
      · cases h2
      · exact nf_true_no_dd st hn.2.2 (by rw [ht]; simp)
    · exact nf_true_no_dd st hn.2.2 h
theorem form_at {r : Bool} {es : List (List UInt8)} (h : M.NF r es.reverse) {k : Nat} {x : List UInt8} (hx : es[k]? = some x) :
    x ≠ [] ∧ x ≠ [46] ∧ (x = [46, 46] → r = false ∧ (k = 0 ∨ ∃ k', k = k' + 1 ∧ es[k']? = some [46, 46])) := by
  have hmem : x ∈ es := List.mem_of_getElem? hx
  have hok := h.ok x (by simpa using hmem)
  refine ⟨hok.1, hok.2.1, fun hd => ⟨?_, ?_⟩⟩
  · cases r with
    | false => rfl
    | true => exact absurd (by rw [hd] at hmem; simpa using hmem) (nf_true_no_dd _ h)
  · obtain ⟨hl, _⟩ := List.getElem?_eq_some_iff.1 hx
    have e1 : es = es.take k ++ x :: es.drop (k + 1) := by
      rw [← drop_cons hx, List.take_append_drop]
    have e2 : es.reverse = (es.drop (k + 1)).reverse ++ x :: (es.take k).reverse := by
      have := congrArg List.reverse e1
      rw [List.reverse_append, List.reverse_cons, List.append_assoc] at this
      simpa using this
    rw [e2] at h
    rcases (h.suffix).2.1 hd with ⟨h0, _⟩ | ⟨t, ht⟩
    · left
      have := congrArg List.length h0
      rw [List.length_reverse, List.length_take, List.length_nil] at this
      omega
    · cases k with
      | zero => simp at ht
      | succ k' =>
        right
        refine ⟨k', rfl, ?_⟩
        obtain ⟨y, hy⟩ : ∃ y, es[k']? = some y := ⟨es[k']'(by omega), List.getElem?_eq_getElem _⟩
        rw [take_rev hy] at ht
        rw [hy]
        exact congrArg some (List.cons.inj ht).1
theorem add_zero' (a : Addr) : a.add 0 = a := by simp [Addr.add]

/-- the elements of a cleaned path that is neither a slash nor a dot -/
theorem form_els {l : List UInt8} (h1 : clean l ≠ [47]) (h2 : clean l ≠ [46]) : M.E (M.ro l) l ≠ [] ∧ els (clean l) = if M.ro l then [] :: M.E (M.ro l) l else M.E (M.ro l) l := by
  have hc := M.clean_eq l
  have hnf := M.nf_E (M.ro l) l
  generalize M.E (M.ro l) l = es at hc hnf
  generalize M.ro l = r at hc hnf
  have h47 : ∀ e ∈ es, 47 ∉ e := fun e he => (hnf.ok e (by simpa using he)).2.2
  cases r with
  | true =>
    have hne : es ≠ [] := fun e => h1 (by rw [hc, e]; rfl)
    refine ⟨hne, ?_⟩
    rw [hc]
    unfold M.render
    simp only [if_true]
    rw [Pa.els_slash, M.els_Jf hne h47]
  | false =>
    have hne : es ≠ [] := fun e => h2 (by rw [hc, e]; rfl)
    refine ⟨hne, ?_⟩
    rw [hc]
    unfold M.render
    simp only [Bool.false_eq_true, if_false, hne]
    rw [M.els_Jf hne h47]

theorem add_pl (g o j : Nat) : (⟨g, o, none⟩ : Addr).add j = ⟨g, o + j, none⟩ := by
  unfold Addr.add
  split <;> simp_all
theorem spec_Parts_row (s : ByteArray) (w : World) (n : Nat) (P : List (List UInt8)) (hs : s.size ≤ 1099511627776) (hP : els s.data.toList = P) (hn : n = P.length) (h0 : 0 < n) :
    Calls Try.prog 18 #[.string s] w fun e w' => ∃ g c, e = .returned (.slice (some ⟨g, 0, none⟩) n c) ∧ n ≤ c ∧ (∀ j x, P[j]? = some x → w'.cell? ⟨g, j, none⟩ = some (.string (S x))) ∧ Below w.heap.size w w' := by
  subst hP
  subst hn
  refine (spec_Parts s w hs).mono ?_
  rintro e w' ⟨v, rfl, ho, hb⟩
  obtain ⟨g, cap, hv, _, _⟩ := ho.form h0
  obtain ⟨A, c, hv2, hc, hr⟩ := Rd.of_own ho
  rw [hv] at hv2
  injection hv2 with e1 e2 e3
  obtain ⟨ad, e4, _, hcell⟩ := hr.2 h0
  rw [e4] at e1
  injection e1 with e1
  subst e1
  exact ⟨g, cap, by rw [hv], by omega, fun j x hx => by
    have h := hcell j _ (by unfold vals; rw [List.getElem?_map, hx]; rfl)
    rw [add_pl, Nat.zero_add] at h
    exact h, hb⟩
theorem cells_tail {w : World} {g : Nat} {p : List UInt8} {es : List (List UInt8)} (h : ∀ (j : Nat) x, (p :: es)[j]? = some x → w.cell? ⟨g, j, none⟩ = some (.string (S x))) :
    ∀ (j : Nat) x, es[j]? = some x → w.cell? ⟨g, 1 + j, none⟩ = some (.string (S x)) := fun j x hx => by
  have h1 := h (j + 1) x (by simpa using hx)
  rw [Nat.add_comm 1 j]
  exact h1

set_option maxHeartbeats 1600000 in
theorem form_false (p c : ByteArray) (w : World) (es : List (List UInt8)) (hp : p.size ≤ 1048576) (hcz : c.size ≤ 1048577) (hc : S (clean p.data.toList) = c) (hr : M.ro c.data.toList = false) (hn47 : c.data.toList ≠ [47]) (hn46 : c.data.toList ≠ [46])
    (hes : es ≠ []) (hel : els c.data.toList = es) (hnf : M.NF false es.reverse) :
    Calls Try.prog 5 #[.string p] w fun e w' => e = .returned (.bool true) ∧ Below w.heap.size w w' := by
  have u1 : (c.toList == [47]) = false := by rw [is_of]; simp [hn47]
  have u2 : (c.toList == [46]) = false := by rw [is_of]; simp [hn46]
  obtain ⟨n, hn⟩ : ∃ n, n = es.length := ⟨_, rfl⟩
  have hn0 : 0 < n := by rw [hn]; exact List.length_pos_iff.2 hes
  have hnb : n ≤ 1048578 := by
    have := M.els_len c.data.toList
    rw [hel, ← Lib.size_eq] at this
    rw [hn]
    have e : es.length ≤ es.length := by simp
    omega
  have HP := Lib.hid (fun W => spec_Parts_row c W (n) es (by omega) hel (by first | exact hn | (rw [hn]; simp)) (by omega))
  have HC := Lib.hid hc
  have HR := Lib.hid hr
  have HN := Lib.hid hn
  have HF := Lib.hid hnf
  clear hc hr hn47 hn46 hes hel hnf hn
  go_enter Try.func5, Try.ntmps5
  go_wp2_with fail
  refine (impl_Clean p c _ (by omega) HC.out).mono ?_
  rintro e w1 ⟨rfl, hb1⟩
  have HB1 := Lib.hid hb1
  clear hb1
  go_wp2_with fail
  refine (HP.out _).mono ?_
  rintro e w2 ⟨g, cc, rfl, hcc, hcell, hb2⟩
  have HB2 := Lib.hid (below_trans HB1.out hb2)
  have HCell := Lib.hid hcell
  clear hcell hb2
  go_wp2_with fail
  refine (spec_Rooted_is c false _ (by omega) HR.out).mono ?_
  rintro e w' ⟨rfl, rfl⟩
  go_wp2_with fail
  go_loop [23] (fun i => ∃ k : Nat, k ≤ n ∧ i = .int .i64 k) (fun i => n - (RowKit.intOf i).toNat)
  case atStart => exact ⟨0, Nat.zero_le _, rfl⟩
  case round =>
    obtain ⟨k, hk, rfl⟩ := hrel
    by_cases hlt : k < n
    · obtain ⟨x, hx⟩ : ∃ x, es[k]? = some x := ⟨es[k]'(by rw [← HN.out]; exact hlt), List.getElem?_eq_getElem _⟩
      have hce := HCell.out k x hx
      obtain ⟨x0, x1, x2⟩ := form_at HF.out hx
      have t0 : (S x).toList.isEmpty = false := by rw [t_empty]; simp [x0]
      have t1 : ((S x).toList == [46]) = false := by rw [t_is]; simp [x1]
      have t2 := t_is x [46, 46]
      generalize S x = y at hce t0 t1 t2
      clear x0 x1 hx
      by_cases hd : x = [46, 46]
      · have t3 : (y.toList == [46, 46]) = true := by rw [t2]; simp [hd]
        obtain ⟨hrf, hkk⟩ := x2 hd
        clear t2 hd
        clear hrf
        rcases hkk with hk0 | ⟨k', rfl, hk'⟩
        · subst hk0
          go_wp2_with fail
          refine (spec_Rooted_is c false _ (by omega) HR.out).mono ?_
          rintro e w' ⟨rfl, rfl⟩
          go_wp2_with fail
          go_round
          case rel => exact ⟨0 + 1, by omega, by go_num⟩
          case measure => simp [RowKit.intOf]; omega
        · have hce2 := HCell.out k' _ hk'
          have s3 : ((S [46, 46]).toList == [46, 46]) = true := by rw [t_is]; simp
          have s4 : ((S [46, 46]).toList != [46, 46]) = false := by unfold bne; rw [s3]; rfl
          generalize S [46, 46] = y2 at hce2 s3 s4
          have hwr : IntKind.i64.wrap (((k' + 1 : Nat) : Int) - 1) = (k' : Int) := by rw [IntKind.wrap_i64]; omega
          have hwr2 : IntKind.i64.wrap ((k' : Int) + 1 - 1) = (k' : Int) := by rw [IntKind.wrap_i64]; omega
          have hk2 : k' < n := by omega
          have hk3 : (k' : Int) < (n : Int) := by omega
          have hk4 : (0 : Int) ≤ (k' : Int) := by omega
          clear hk'
          go_wp2_with fail
          refine (spec_Rooted_is c false _ (by omega) HR.out).mono ?_
          rintro e w' ⟨rfl, rfl⟩
          by_cases hk0 : k' = 0
          · subst hk0
            go_wp2_with fail
            go_round
            case rel => exact ⟨0 + 1 + 1, by omega, by go_num⟩
            case measure => simp [RowKit.intOf]; omega
          · go_wp2_with fail
            go_round
            case rel => exact ⟨k' + 1 + 1, by omega, by go_num⟩
            case measure => simp [RowKit.intOf]; omega
      · have t3 : (y.toList == [46, 46]) = false := by rw [t2]; simp [hd]
        clear t2 hd x2
        by_cases hk0 : k = 0
        · subst hk0
          go_wp2_with fail
          go_round
          case rel => exact ⟨0 + 1, by omega, by go_num⟩
          case measure => simp [RowKit.intOf]; omega
        · go_wp2_with fail
          go_round
          case rel => exact ⟨k + 1, by omega, by go_num⟩
          case measure => simp [RowKit.intOf]; omega
    · have hge : n ≤ k := by omega
      go_wp2
      go_ret
      exact ⟨by simp; try omega, HB2.out⟩

set_option maxHeartbeats 1600000 in
theorem form_true (p c : ByteArray) (w : World) (es : List (List UInt8)) (hp : p.size ≤ 1048576) (hcz : c.size ≤ 1048577) (hc : S (clean p.data.toList) = c) (hr : M.ro c.data.toList = true) (hn47 : c.data.toList ≠ [47]) (hn46 : c.data.toList ≠ [46])
    (hes : es ≠ []) (hel : els c.data.toList = ([] :: es)) (hnf : M.NF true es.reverse) :
    Calls Try.prog 5 #[.string p] w fun e w' => e = .returned (.bool true) ∧ Below w.heap.size w w' := by
  have u1 : (c.toList == [47]) = false := by rw [is_of]; simp [hn47]
  have u2 : (c.toList == [46]) = false := by rw [is_of]; simp [hn46]
  obtain ⟨n, hn⟩ : ∃ n, n = es.length := ⟨_, rfl⟩
  have hn0 : 0 < n := by rw [hn]; exact List.length_pos_iff.2 hes
  have hnb : n ≤ 1048578 := by
    have := M.els_len c.data.toList
    rw [hel, ← Lib.size_eq] at this
    rw [hn]
    have e : es.length ≤ ([] :: es).length := by simp
    omega
  have HP := Lib.hid (fun W => spec_Parts_row c W (n + 1) ([] :: es) (by omega) hel (by first | exact hn | (rw [hn]; simp)) (by omega))
  have HC := Lib.hid hc
  have HR := Lib.hid hr
  have HN := Lib.hid hn
  have HF := Lib.hid hnf
  clear hc hr hn47 hn46 hes hel hnf hn
  go_enter Try.func5, Try.ntmps5
  go_wp2_with fail
  refine (impl_Clean p c _ (by omega) HC.out).mono ?_
  rintro e w1 ⟨rfl, hb1⟩
  have HB1 := Lib.hid hb1
  clear hb1
  go_wp2_with fail
  refine (HP.out _).mono ?_
  rintro e w2 ⟨g, cc, rfl, hcc, hcell, hb2⟩
  have HB2 := Lib.hid (below_trans HB1.out hb2)
  have HCell := Lib.hid (cells_tail hcell)
  clear hcell hb2
  go_wp2_with fail
  refine (spec_Rooted_is c true _ (by omega) HR.out).mono ?_
  rintro e w' ⟨rfl, rfl⟩
  go_wp2_with fail
  go_loop [23] (fun i => ∃ k : Nat, k ≤ n ∧ i = .int .i64 k) (fun i => n - (RowKit.intOf i).toNat)
  case atStart => exact ⟨0, Nat.zero_le _, rfl⟩
  case round =>
    obtain ⟨k, hk, rfl⟩ := hrel
    by_cases hlt : k < n
    · obtain ⟨x, hx⟩ : ∃ x, es[k]? = some x := ⟨es[k]'(by rw [← HN.out]; exact hlt), List.getElem?_eq_getElem _⟩
      have hce := HCell.out k x hx
      obtain ⟨x0, x1, x2⟩ := form_at HF.out hx
      have t0 : (S x).toList.isEmpty = false := by rw [t_empty]; simp [x0]
      have t1 : ((S x).toList == [46]) = false := by rw [t_is]; simp [x1]
      have t2 := t_is x [46, 46]
      generalize S x = y at hce t0 t1 t2
      clear x0 x1 hx
      by_cases hd : x = [46, 46]
      · have t3 : (y.toList == [46, 46]) = true := by rw [t2]; simp [hd]
        obtain ⟨hrf, hkk⟩ := x2 hd
        clear t2 hd
        exact absurd hrf (by simp)
      · have t3 : (y.toList == [46, 46]) = false := by rw [t2]; simp [hd]
        clear t2 hd x2
        by_cases hk0 : k = 0
        · subst hk0
          simp only [Nat.add_zero] at hce
          go_wp2_with fail
          go_round
          case rel => exact ⟨0 + 1, by omega, by go_num⟩
          case measure => simp [RowKit.intOf]; omega
        · go_wp2_with fail
          go_round
          case rel => exact ⟨k + 1, by omega, by go_num⟩
          case measure => simp [RowKit.intOf]; omega
    · have hge : n ≤ k := by omega
      go_wp2
      go_ret
      exact ⟨by simp; try omega, HB2.out⟩

set_option maxHeartbeats 400000 in
theorem law_FnCleanForm (p : ByteArray) (w : World) (hp : p.size ≤ 1048576) :
    Calls Try.prog 5 #[.string p] w fun e w' => e = .returned (.bool true) ∧ Below w.heap.size w w' := by
  obtain ⟨c, hc⟩ : ∃ c, S (clean p.data.toList) = c := ⟨_, rfl⟩
  have hcl : c.data.toList = clean p.data.toList := by rw [← hc, S_toList]
  have hcz : c.size ≤ 1048577 := by have := clean_size hc; omega
  by_cases h47 : c.data.toList = [47]
  · have u1 : (c.toList == [47]) = true := by rw [is_of]; simp [h47]
    have HC := Lib.hid hc
    clear hc hcl h47
    go_enter Try.func5, Try.ntmps5
    go_wp2_with fail
    refine (impl_Clean p c _ (by omega) HC.out).mono ?_
    rintro e w1 ⟨rfl, hb1⟩
    have HB1 := Lib.hid hb1
    clear hb1
    go_wp2
    go_ret
    exact ⟨rfl, HB1.out⟩
  by_cases h46 : c.data.toList = [46]
  · have u1 : (c.toList == [47]) = false := by rw [is_of]; simp [h47]
    have u2 : (c.toList == [46]) = true := by rw [is_of]; simp [h46]
    have HC := Lib.hid hc
    clear hc hcl h47 h46
    go_enter Try.func5, Try.ntmps5
    go_wp2_with fail
    refine (impl_Clean p c _ (by omega) HC.out).mono ?_
    rintro e w1 ⟨rfl, hb1⟩
    have HB1 := Lib.hid hb1
    clear hb1
    go_wp2
    go_ret
    exact ⟨rfl, HB1.out⟩
  obtain ⟨hne, hel⟩ := form_els (l := p.data.toList) (by rw [← hcl]; exact h47) (by rw [← hcl]; exact h46)
  have hnf := M.nf_E (M.ro p.data.toList) p.data.toList
  have hro : M.ro c.data.toList = M.ro p.data.toList := by rw [hcl, M.ro_clean]
  rw [← hcl] at hel
  cases hr : M.ro p.data.toList with
  | true =>
    rw [hr] at hne hel hnf hro
    exact form_true p c w _ hp hcz hc hro h47 h46 hne (by simpa using hel) hnf
  | false =>
    rw [hr] at hne hel hnf hro
    exact form_false p c w _ hp hcz hc hro h47 h46 hne (by simpa using hel) hnf

end Go.Proofs.Ytodfjjkjkkpkhaa
