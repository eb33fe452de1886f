/-
  The walks of FnRel, FnRelBack, FnRelClean.
-/
import Derived.Test.YtedaekkpnjcojaaSpecRel
import Derived.Test.YtedaekkpnjcojaaLawsC1
import Derived.Test.YtedaekkpnjcojaaLawRelUp
namespace Go.Proofs.Ytedaekkpnjcojaa
open Go.RowKit Go.Lib
open Go.Lib.Pa (clean isAbs split ext base dir els)

/-- the relative path, if there is one -/
def relIs (s t : List UInt8) : Option (List UInt8) := if M.ro s = M.ro t then M.relOut (M.E (M.ro s) s) (M.E (M.ro s) t) else none

theorem impl_Rel_is (s t : ByteArray) (w : World) (hs : s.size ≤ 1073741824) (ht : t.size ≤ 1073741824) (hf : FixOk s.data.toList t.data.toList) :
    Calls Try.prog 17 #[.string s, .string t] w (ImplRel (relIs s.data.toList t.data.toList) w) := by
  unfold relIs
  by_cases h : M.ro s.data.toList = M.ro t.data.toList
  · rw [if_pos h]
    exact impl_Rel_fixed s t _ w (by omega) (by omega) rfl h.symm (hf _ rfl h.symm)
  · rw [if_neg h]
    exact impl_Rel_mixed s t w (by omega) (by omega) h
theorem spec_Rel_is (s t : ByteArray) (w : World) (hs : s.size ≤ 1073741824) (ht : t.size ≤ 1073741824) :
    Calls Try.prog 21 #[.string s, .string t] w (ImplRel (relIs s.data.toList t.data.toList) w) := by
  unfold relIs
  by_cases h : M.ro s.data.toList = M.ro t.data.toList
  · rw [if_pos h]
    exact spec_Rel_same s t _ w hs ht rfl h.symm
  · rw [if_neg h]
    exact spec_Rel_mixed s t w hs ht h
theorem relIs_clean (s t : List UInt8) : relIs (clean s) (clean t) = relIs s t := by
  unfold relIs
  rw [M.ro_clean, M.ro_clean]
  by_cases h : M.ro s = M.ro t
  · rw [if_pos h, if_pos h, M.E_clean]
    have := M.E_clean t
    rw [← h] at this
    rw [this]
  · rw [if_neg h, if_neg h]
theorem fixOk_clean {s t : List UInt8} (h : FixOk s t) : FixOk (clean s) (clean t) := by
  intro r h1 h2 h3 h4
  rw [M.ro_clean] at h1 h2
  have e1 := M.E_clean s
  have e2 := M.E_clean t
  rw [h1] at e1
  rw [h2] at e2
  rw [e2] at h4
  rw [e1]
  exact h r h1 h2 h3 h4

theorem relIs_some {s t z : List UInt8} (h : relIs s t = some z) : M.ro s = M.ro t ∧ M.relOut (M.E (M.ro s) s) (M.E (M.ro s) t) = some z := by
  unfold relIs at h
  by_cases hr : M.ro s = M.ro t
  · rw [if_pos hr] at h; exact ⟨hr, h⟩
  · rw [if_neg hr] at h; cases h
theorem relOut_form {a b : List (List UInt8)} {z : List UInt8} (h : M.relOut a b = some z) : z = clean (M.J (List.replicate (M.cut a b).1.length M.dd ++ (M.cut a b).2)) := by
  unfold M.relOut at h
  by_cases hd : (M.cut a b).1.head? = some M.dd
  · rw [if_pos hd] at h; cases h
  · rw [if_neg hd] at h
    exact (Option.some.inj h).symm
theorem relIs_clean_self {s t z : List UInt8} (h : relIs s t = some z) : clean z = z := by
  rw [relOut_form (relIs_some h).2, M.clean_clean]
theorem relIs_ne {s t z : List UInt8} (h : relIs s t = some z) : z ≠ [] := by
  rw [relOut_form (relIs_some h).2]; exact M.clean_ne _
theorem relIs_len {s t z : List UInt8} (h : relIs s t = some z) : z.length ≤ 3 * s.length + t.length + 6 := by
  obtain ⟨_, h2⟩ := relIs_some h
  have hz := relOut_form h2
  obtain ⟨C, h3, h4, _⟩ := M.cut_spec (M.E (M.ro s) s) (M.E (M.ro s) t)
  generalize M.cut (M.E (M.ro s) s) (M.E (M.ro s) t) = XY at hz h3 h4
  obtain ⟨X, Y⟩ := XY
  simp only at hz h3 h4
  have hws := M.wt_E (M.ro s) s
  have hwt := M.wt_E (M.ro s) t
  rw [h3, M.wt_app] at hws
  rw [h4, M.wt_app] at hwt
  have hlx := M.len_le_wt X
  have hw : M.wt (List.replicate X.length M.dd ++ Y) = 3 * X.length + M.wt Y := by rw [M.wt_app, M.wt_dds]
  have hj := M.J_le_wt (List.replicate X.length M.dd ++ Y)
  have hc := M.clean_len_le (M.J (List.replicate X.length M.dd ++ Y))
  rw [← hz] at hc
  omega
theorem relIs_back {s t z : List UInt8} (h : relIs s t = some z) : M.ro z = false ∧ Pa.join [s, z] = clean t := by
  have hne := relIs_ne h
  have hcl := relIs_clean_self h
  obtain ⟨hr, h2⟩ := relIs_some h
  rw [M.join_two _ _ hne]
  by_cases hs : s = []
  · rw [if_pos hs]
    subst hs
    have e0 : M.ro ([] : List UInt8) = false := rfl
    rw [e0] at hr h2
    have hz := relOut_form h2
    rw [E_nil_of_nil, cut_nil_left] at hz
    simp only [List.length_nil, List.replicate_zero, List.nil_append] at hz
    have hstd := M.std_E false t
    refine ⟨by rw [hz, M.ro_clean, M.ro_J hstd], ?_⟩
    rw [hcl, hz, M.clean_J hstd, M.clean_eq t, ← hr]
  · rw [if_neg hs]
    obtain ⟨h3, _, h5⟩ := M.rel_back (M.std_E (M.ro s) s) (M.nf_E (M.ro s) t) hs rfl rfl h2
    refine ⟨h5, ?_⟩
    rw [h3, M.clean_eq t, ← hr]

/-- how Rel ends, by cases -/
theorem rel_none {f : Nat} {s t : ByteArray} {o : Option (List UInt8)} {W : World} (h : Calls Try.prog f #[.string s, .string t] W (ImplRel o W)) (ho : o = none) :
    Calls Try.prog f #[.string s, .string t] W fun e w' => e = .returned (.tuple #[.string ⟨#[]⟩, .bool false]) ∧ Below W.heap.size W w' := by
  subst ho; exact h
theorem rel_some {f : Nat} {s t : ByteArray} {o : Option (List UInt8)} {z : ByteArray} {W : World} (h : Calls Try.prog f #[.string s, .string t] W (ImplRel o W)) (ho : o = some z.data.toList) :
    Calls Try.prog f #[.string s, .string t] W fun e w' => e = .returned (.tuple #[.string z, .bool true]) ∧ Below W.heap.size W w' := by
  subst ho
  have e : S z.data.toList = z := S_data z
  refine h.mono fun e' w' ⟨h1, h2⟩ => ⟨?_, h2⟩
  rw [h1]
  show Ending.returned (.tuple #[.string (S z.data.toList), .bool true]) = _
  rw [e]


set_option maxHeartbeats 800000 in
theorem law_FnRel (b t : ByteArray) (w : World) (hbt : b.size + t.size ≤ 1048576) :
    Calls Try.prog 10 #[.string b, .string t] w fun e w' => e = .returned (.bool true) ∧ Below w.heap.size w w' := by
  cases ho : relIs b.data.toList t.data.toList with
  | none =>
    have HI := Lib.hid (fun hf W => rel_none (impl_Rel_is b t W (by omega) (by omega) hf) ho)
    have HS := Lib.hid (fun W => rel_none (spec_Rel_is b t W (by omega) (by omega)) ho)
    clear ho
    go_enter Try.func10, Try.ntmps10
    go_wp2_with fail
    refine (spec_RelFixed b t _ (by omega) (by omega)).mono ?_
    rintro e w1 ⟨bl, rfl, hfx, hb1⟩
    have HB1 := Lib.hid hb1
    clear hb1
    cases bl with
    | false =>
      clear hfx
      go_wp2
      go_ret
      exact ⟨rfl, HB1.out⟩
    | true =>
      have HF := Lib.hid (hfx rfl)
      clear hfx
      go_wp2_with fail
      refine (HI.out HF.out _).mono ?_
      rintro e w2 ⟨rfl, hb2⟩
      have HB2 := Lib.hid (below_trans HB1.out hb2)
      clear hb2
      go_wp2_with fail
      refine (HS.out _).mono ?_
      rintro e w3 ⟨rfl, hb3⟩
      have HB3 := Lib.hid (below_trans HB2.out hb3)
      clear hb3
      go_wp2
      go_ret
      exact ⟨rfl, HB3.out⟩
  | some z0 =>
    obtain ⟨z, hz⟩ : ∃ z, S z0 = z := ⟨_, rfl⟩
    have ho2 : relIs b.data.toList t.data.toList = some z.data.toList := by rw [ho, ← hz, S_toList]
    have HI := Lib.hid (fun hf W => rel_some (impl_Rel_is b t W (by omega) (by omega) hf) ho2)
    have HS := Lib.hid (fun W => rel_some (spec_Rel_is b t W (by omega) (by omega)) ho2)
    clear ho ho2 hz
    go_enter Try.func10, Try.ntmps10
    go_wp2_with fail
    refine (spec_RelFixed b t _ (by omega) (by omega)).mono ?_
    rintro e w1 ⟨bl, rfl, hfx, hb1⟩
    have HB1 := Lib.hid hb1
    clear hb1
    cases bl with
    | false =>
      clear hfx
      go_wp2
      go_ret
      exact ⟨rfl, HB1.out⟩
    | true =>
      have HF := Lib.hid (hfx rfl)
      clear hfx
      go_wp2_with fail
      refine (HI.out HF.out _).mono ?_
      rintro e w2 ⟨rfl, hb2⟩
      have HB2 := Lib.hid (below_trans HB1.out hb2)
      clear hb2
      go_wp2_with fail
      refine (HS.out _).mono ?_
      rintro e w3 ⟨rfl, hb3⟩
      have HB3 := Lib.hid (below_trans HB2.out hb3)
      clear hb3
      go_wp2
      go_ret
      exact ⟨by simp, HB3.out⟩

set_option maxHeartbeats 800000 in
theorem law_FnRelBack (b t : ByteArray) (w : World) (hbt : b.size + t.size ≤ 1048576) :
    Calls Try.prog 4 #[.string b, .string t] w fun e w' => e = .returned (.bool true) ∧ Below w.heap.size w w' := by
  cases ho : relIs b.data.toList t.data.toList with
  | none =>
    have HI := Lib.hid (fun hf W => rel_none (impl_Rel_is b t W (by omega) (by omega) hf) ho)
    have HS := Lib.hid (fun W => rel_none (spec_Rel_is b t W (by omega) (by omega)) ho)
    clear ho
    go_enter Try.func4, Try.ntmps4
    go_wp2_with fail
    refine (spec_RelFixed b t _ (by omega) (by omega)).mono ?_
    rintro e w1 ⟨bl, rfl, hfx, hb1⟩
    have HB1 := Lib.hid hb1
    clear hb1
    cases bl with
    | false =>
      clear hfx
      go_wp2
      go_ret
      exact ⟨rfl, HB1.out⟩
    | true =>
      have HF := Lib.hid (hfx rfl)
      clear hfx
      go_wp2_with fail
      refine (HI.out HF.out _).mono ?_
      rintro e w2 ⟨rfl, hb2⟩
      have HB2 := Lib.hid (below_trans HB1.out hb2)
      clear hb2
      go_wp2_with fail
      refine (HS.out _).mono ?_
      rintro e w3 ⟨rfl, hb3⟩
      have HB3 := Lib.hid (below_trans HB2.out hb3)
      clear hb3
      go_wp2
      go_ret
      exact ⟨rfl, HB3.out⟩
  | some z0 =>
    obtain ⟨z, hz⟩ : ∃ z, S z0 = z := ⟨_, rfl⟩
    have ho2 : relIs b.data.toList t.data.toList = some z.data.toList := by rw [ho, ← hz, S_toList]
    have HI := Lib.hid (fun hf W => rel_some (impl_Rel_is b t W (by omega) (by omega) hf) ho2)
    have hlen := relIs_len ho2
    rw [← Lib.size_eq, ← Lib.size_eq, ← Lib.size_eq] at hlen
    have zE := isEmpty_of_pos (s := z) (by rw [Lib.size_eq]; exact List.length_pos_iff.2 (relIs_ne ho2))
    obtain ⟨hzr, hzj⟩ := relIs_back ho2
    obtain ⟨c, hc⟩ : ∃ c, S (clean t.data.toList) = c := ⟨_, rfl⟩
    have hj : S (Pa.join [b.data.toList, z.data.toList]) = c := by rw [hzj, hc]
    have HZ := Lib.hid hzr
    have HC := Lib.hid hc
    have HJ := Lib.hid hj
    clear ho ho2 hz hzr hzj hc hj
    go_enter Try.func4, Try.ntmps4
    go_wp2_with fail
    refine (spec_RelFixed b t _ (by omega) (by omega)).mono ?_
    rintro e w1 ⟨bl, rfl, hfx, hb1⟩
    have HB1 := Lib.hid hb1
    clear hb1
    cases bl with
    | false =>
      clear hfx
      go_wp2
      go_ret
      exact ⟨rfl, HB1.out⟩
    | true =>
      have HF := Lib.hid (hfx rfl)
      clear hfx
      go_wp2_with fail
      refine (HI.out HF.out _).mono ?_
      rintro e w2 ⟨rfl, hb2⟩
      have HB2 := Lib.hid (below_trans HB1.out hb2)
      clear hb2
      go_wp2_with fail
      refine (spec_Rooted_is z false _ (by omega) HZ.out).mono ?_
      rintro e w' ⟨rfl, rfl⟩
      go_wp2_with fail
      refine (join2 b z c _ (by omega) HJ.out).mono ?_
      rintro e w3 ⟨rfl, hb3⟩
      have HB3 := Lib.hid (below_step HB2.out hb3)
      clear hb3
      go_wp2_with fail
      refine (impl_Clean t c _ (by omega) HC.out).mono ?_
      rintro e w4 ⟨rfl, hb4⟩
      have HB4 := Lib.hid (below_step HB3.out hb4)
      clear hb4
      go_wp2
      go_ret
      exact ⟨by simp, HB4.out⟩

set_option maxHeartbeats 800000 in
theorem law_FnRelClean (b t : ByteArray) (w : World) (hbt : b.size + t.size ≤ 1048576) :
    Calls Try.prog 11 #[.string b, .string t] w fun e w' => e = .returned (.bool true) ∧ Below w.heap.size w w' := by
  obtain ⟨cb, hcb⟩ : ∃ c, S (clean b.data.toList) = c := ⟨_, rfl⟩
  obtain ⟨ct, hct⟩ : ∃ c, S (clean t.data.toList) = c := ⟨_, rfl⟩
  have zb : cb.size ≤ b.size + 1 := by have := M.clean_len_le b.data.toList; rw [← hcb, S_size, Lib.size_eq]; exact this
  have zt : ct.size ≤ t.size + 1 := by have := M.clean_len_le t.data.toList; rw [← hct, S_size, Lib.size_eq]; exact this
  have hcc := relIs_clean b.data.toList t.data.toList
  rw [← lst hcb, ← lst hct] at hcc
  have hff : FixOk b.data.toList t.data.toList → FixOk cb.data.toList ct.data.toList := fun h => by
    have := fixOk_clean h
    rw [← lst hcb, ← lst hct] at this
    exact this
  have HCB := Lib.hid hcb
  have HCT := Lib.hid hct
  have HFF := Lib.hid hff
  clear hcb hct hff
  cases ho : relIs b.data.toList t.data.toList with
  | none =>
    have ho3 := hcc.trans ho
    have HI := Lib.hid (fun hf W => rel_none (impl_Rel_is b t W (by omega) (by omega) hf) ho)
    have HI2 := Lib.hid (fun hf W => rel_none (impl_Rel_is cb ct W (by omega) (by omega) hf) ho3)
    have HS := Lib.hid (fun W => rel_none (spec_Rel_is b t W (by omega) (by omega)) ho)
    clear ho ho3 hcc
    go_enter Try.func11, Try.ntmps11
    go_wp2_with fail
    refine (spec_RelFixed b t _ (by omega) (by omega)).mono ?_
    rintro e w1 ⟨bl, rfl, hfx, hb1⟩
    have HB1 := Lib.hid hb1
    clear hb1
    cases bl with
    | false =>
      clear hfx
      go_wp2
      go_ret
      exact ⟨rfl, HB1.out⟩
    | true =>
      have HF := Lib.hid (hfx rfl)
      clear hfx
      go_wp2_with fail
      refine (HI.out HF.out _).mono ?_
      rintro e w2 ⟨rfl, hb2⟩
      have HB2 := Lib.hid (below_trans HB1.out hb2)
      clear hb2
      go_wp2_with fail
      refine (impl_Clean b cb _ (by omega) HCB.out).mono ?_
      rintro e w3 ⟨rfl, hb3⟩
      have HB3 := Lib.hid (below_trans HB2.out hb3)
      clear hb3
      go_wp2_with fail
      refine (impl_Clean t ct _ (by omega) HCT.out).mono ?_
      rintro e w4 ⟨rfl, hb4⟩
      have HB4 := Lib.hid (below_trans HB3.out hb4)
      clear hb4
      go_wp2_with fail
      refine (HI2.out (HFF.out HF.out) _).mono ?_
      rintro e w5 ⟨rfl, hb5⟩
      have HB5 := Lib.hid (below_trans HB4.out hb5)
      clear hb5
      go_wp2_with fail
      refine (HS.out _).mono ?_
      rintro e w6 ⟨rfl, hb6⟩
      have HB6 := Lib.hid (below_trans HB5.out hb6)
      clear hb6
      go_wp2
      go_ret
      exact ⟨rfl, HB6.out⟩
  | some z0 =>
    obtain ⟨z, hz⟩ : ∃ z, S z0 = z := ⟨_, rfl⟩
    have ho2 : relIs b.data.toList t.data.toList = some z.data.toList := by rw [ho, ← hz, S_toList]
    have ho3 := hcc.trans ho2
    have HI := Lib.hid (fun hf W => rel_some (impl_Rel_is b t W (by omega) (by omega) hf) ho2)
    have HI2 := Lib.hid (fun hf W => rel_some (impl_Rel_is cb ct W (by omega) (by omega) hf) ho3)
    have HS := Lib.hid (fun W => rel_some (spec_Rel_is b t W (by omega) (by omega)) ho2)
    have hlen := relIs_len ho2
    rw [← Lib.size_eq, ← Lib.size_eq, ← Lib.size_eq] at hlen
    have hzc : S (clean z.data.toList) = z := by rw [relIs_clean_self ho2, S_data]
    have HZC := Lib.hid hzc
    clear ho ho2 ho3 hz hcc hzc
    go_enter Try.func11, Try.ntmps11
    go_wp2_with fail
    refine (spec_RelFixed b t _ (by omega) (by omega)).mono ?_
    rintro e w1 ⟨bl, rfl, hfx, hb1⟩
    have HB1 := Lib.hid hb1
    clear hb1
    cases bl with
    | false =>
      clear hfx
      go_wp2
      go_ret
      exact ⟨rfl, HB1.out⟩
    | true =>
      have HF := Lib.hid (hfx rfl)
      clear hfx
      go_wp2_with fail
      refine (HI.out HF.out _).mono ?_
      rintro e w2 ⟨rfl, hb2⟩
      have HB2 := Lib.hid (below_trans HB1.out hb2)
      clear hb2
      go_wp2_with fail
      refine (impl_Clean b cb _ (by omega) HCB.out).mono ?_
      rintro e w3 ⟨rfl, hb3⟩
      have HB3 := Lib.hid (below_trans HB2.out hb3)
      clear hb3
      go_wp2_with fail
      refine (impl_Clean t ct _ (by omega) HCT.out).mono ?_
      rintro e w4 ⟨rfl, hb4⟩
      have HB4 := Lib.hid (below_trans HB3.out hb4)
      clear hb4
      go_wp2_with fail
      refine (HI2.out (HFF.out HF.out) _).mono ?_
      rintro e w5 ⟨rfl, hb5⟩
      have HB5 := Lib.hid (below_trans HB4.out hb5)
      clear hb5
      go_wp2_with fail
      refine (HS.out _).mono ?_
      rintro e w6 ⟨rfl, hb6⟩
      have HB6 := Lib.hid (below_trans HB5.out hb6)
      clear hb6
      have hzz : (z.toList == z.toList) = true := by simp
      go_wp2_with fail
      refine (impl_Clean z z _ (by omega) HZC.out).mono ?_
      rintro e w7 ⟨rfl, hb7⟩
      have HB7 := Lib.hid (below_trans HB6.out hb7)
      clear hb7
      go_wp2
      go_ret
      exact ⟨by simp, HB7.out⟩

end Go.Proofs.Ytedaekkpnjcojaa
