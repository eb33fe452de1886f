/-
  Contracts of filepath.Rel and impl.Rel, by the elements of the cleaned paths.
-/
import Derived.Test.YtedaekkpnjcojaaRel3
import Derived.Test.YtedaekkpnjcojaaRel4
import Derived.Test.YtedaekkpnjcojaaRel5
import Derived.Test.YtedaekkpnjcojaaRel6
import Derived.Test.YtedaekkpnjcojaaRel7
import Derived.Test.YtedaekkpnjcojaaRelLaw
namespace Go.Proofs.Ytedaekkpnjcojaa
open Go.RowKit Go.Lib
open Go.Lib.Pa (clean isAbs split ext base dir els)

/-- what Rel comes to -/
def RelIs (o : Option (List UInt8)) (w : World) (e : Ending) (w' : World) : Prop := match o with
  | some z => RelOk (S z) w e w'
  | none => RelErr w e w'

theorem S_ne {a b : List UInt8} (h : a ≠ b) : S a ≠ S b := fun e => h (S_inj e)
theorem dot_S : (⟨#[46]⟩ : ByteArray) = S [46] := rfl

theorem filepath_Rel_mixed (s t : ByteArray) (w : World) (hs : s.size ≤ 35184372088832) (ht : t.size ≤ 35184372088832) (hro : M.ro s.data.toList ≠ M.ro t.data.toList) :
    Calls Try.prog 32 #[.string s, .string t] w (RelErr w) := by
  by_cases hd : S (clean s.data.toList) = ⟨#[46]⟩
  · refine rel_dot_mixed s t _ _ w hs ht rfl rfl hd ?_
    rw [S_toList, M.ro_clean]
    have h1 : M.ro s.data.toList = false := by
      have := congrArg (fun x : ByteArray => M.ro x.data.toList) hd
      rw [← M.ro_clean]
      exact this
    cases h2 : M.ro t.data.toList with
    | true => rfl
    | false => exact absurd (h1.trans h2.symm) hro
  · exact rel_mixed s t _ _ w hs ht rfl rfl (by rw [S_toList, S_toList, M.ro_clean, M.ro_clean]; exact hro) hd

theorem filepath_Rel_fixed (s t : ByteArray) (r : Bool) (w : World) (hs : s.size ≤ 35184372088832) (ht : t.size ≤ 35184372088832) (hrs : M.ro s.data.toList = r) (hrt : M.ro t.data.toList = r)
    (hfix : r = false → M.E r t.data.toList = [] → M.E r s.data.toList = []) :
    Calls Try.prog 32 #[.string s, .string t] w (RelIs (M.relOut (M.E r s.data.toList) (M.E r t.data.toList)) w) := by
  have cs : clean s.data.toList = M.render r (M.E r s.data.toList) := by rw [M.clean_eq, hrs]
  have ct : clean t.data.toList = M.render r (M.E r t.data.toList) := by rw [M.clean_eq, hrt]
  have ha := M.std_E r s.data.toList
  have hb := M.std_E r t.data.toList
  have rs : M.ro (clean s.data.toList) = r := by rw [M.ro_clean, hrs]
  have rt : M.ro (clean t.data.toList) = r := by rw [M.ro_clean, hrt]
  have na := M.nf_E r s.data.toList
  have nb := M.nf_E r t.data.toList
  have haOk : ∀ e ∈ M.E r s.data.toList, M.Ok e := fun e he => M.ok_E he
  have hbOk : ∀ e ∈ M.E r t.data.toList, M.Ok e := fun e he => M.ok_E he
  generalize M.E r s.data.toList = a at *
  generalize M.E r t.data.toList = b at *
  by_cases hab : a = b
  · subst hab
    have h1 : M.relOut a a = some [46] := by
      unfold M.relOut
      rw [M.cut_self]
      rfl
    rw [h1]
    exact rel_same s t _ w hs ht (by rw [cs]) (by rw [ct])
  · obtain ⟨C, h1, h2, h3⟩ := M.cut_spec a b
    have hX : M.Std (M.cut a b).1 := by rw [h1] at ha; exact ha.suffix
    have hY : M.Std (M.cut a b).2 := by rw [h2] at hb; exact hb.suffix
    have hYok := hY.ok
    have hXok := hX.ok
    have hne : S (M.render r b) ≠ S (M.render r a) := S_ne fun e => hab (by rw [← M.E_render na, ← M.E_render nb, e])
    by_cases ha0 : r = false ∧ a = []
    · obtain ⟨rfl, rfl⟩ := ha0
      have hb0 : b ≠ [] := fun e => hab e.symm
      have e1 : M.cut [] b = ([], b) := by cases b <;> rfl
      have hr1 : M.relOut [] b = some (M.render false b) := by
        have h9 : M.relOut [] b = some (clean (M.J (List.replicate (M.cut [] b).1.length M.dd ++ (M.cut [] b).2))) := by
          unfold M.relOut
          rw [if_neg]
          rw [e1]; simp
        rw [h9, e1]
        exact congrArg some (M.clean_J hb)
      rw [hr1]
      refine rel_dot s t (S (clean s.data.toList)) _ w hs ht rfl (by rw [ct]) ?_ ?_ ?_
      · rw [cs]; rfl
      · rw [cs]; exact hne
      · rw [S_toList]; exact M.ro_render nb
    · have ha1 : r = false → a ≠ [] := fun e e' => ha0 ⟨e, e'⟩
      have hb1 : r = false → b ≠ [] := fun e e' => ha1 e (hfix e e')
      obtain ⟨N, hst⟩ := M.strip_render r haOk hbOk hab ha1 hb1
      have hdot : S (clean s.data.toList) ≠ ⟨#[46]⟩ := by
        rw [dot_S]
        refine S_ne fun e => ?_
        rw [cs] at e
        cases r with
        | true => rw [M.render_true] at e; injection e with e _; exact absurd e (by decide)
        | false =>
          rw [M.render_false (ha1 rfl)] at e
          have e5 := M.els_Jf (ha1 rfl) fun x hx => (haOk x hx).2.2
          rw [e, M.els_free (e := [46]) (by decide)] at e5
          exact (haOk [46] (by rw [← e5]; simp)).2.1 rfl
      have hne' : S (clean t.data.toList) ≠ S (clean s.data.toList) := by rw [cs, ct]; exact hne
      have hro' : M.ro (S (clean s.data.toList)).data.toList = M.ro (S (clean t.data.toList)).data.toList := by rw [S_toList, S_toList, rs, rt]
      have hst' : M.strip N (S (clean s.data.toList)).data.toList (S (clean t.data.toList)).data.toList = some (M.J (M.cut a b).1, M.J (M.cut a b).2) := by rw [S_toList, S_toList, cs, ct]; exact hst
      by_cases hh : (M.cut a b).1.head? = some M.dd
      · have hr1 : M.relOut a b = none := by unfold M.relOut; rw [if_pos hh]
        rw [hr1]
        refine rel_dots s t _ _ w hs ht rfl rfl _ _ N hne' hdot hro' hst' ?_
        cases hc : (M.cut a b).1 with
        | nil => rw [hc] at hh; cases hh
        | cons x X =>
          rw [hc] at hh hXok
          injection hh with hh
          rw [M.hd_J _ (hXok x (by simp)).2.2, hh]
      · have hr1 : M.relOut a b = some (clean (M.J (List.replicate (M.cut a b).1.length M.dd ++ (M.cut a b).2))) := by unfold M.relOut; rw [if_neg hh]
        rw [hr1]
        have hhd : M.hd (M.J (M.cut a b).1) ≠ [46, 46] := by
          cases hc : (M.cut a b).1 with
          | nil => decide
          | cons x X =>
            rw [hc] at hh hXok
            rw [M.hd_J _ (hXok x (by simp)).2.2]
            exact fun e => hh (by rw [e]; rfl)
        have hJY : M.J (M.cut a b).2 = [] ↔ (M.cut a b).2 = [] := M.J_eq_nil fun e he => (hYok e he).1
        have hJX : M.J (M.cut a b).1 = [] ↔ (M.cut a b).1 = [] := M.J_eq_nil fun e he => (hXok e he).1
        by_cases hX0 : (M.cut a b).1 = []
        · have hY0 : (M.cut a b).2 ≠ [] := by
            intro e
            rw [hX0] at h1
            rw [e] at h2
            exact hab (h1.trans h2.symm)
          have e2 : clean (M.J (List.replicate (M.cut a b).1.length M.dd ++ (M.cut a b).2)) = M.J (M.cut a b).2 := by
            rw [hX0]
            show clean (M.J (M.cut a b).2) = _
            rw [M.clean_J hY, M.render_false hY0]
          rw [e2]
          exact rel_down s t _ _ w hs ht rfl rfl _ _ N hne' hdot hro' hst' ⟨hhd, hJX.2 hX0⟩
        · have hlen : (M.cut a b).1.length - 1 + 1 = (M.cut a b).1.length := by
            have := List.length_pos_iff.2 hX0
            omega
          have e2 : M.upPath ((M.J (M.cut a b).1).count 47) (M.J (M.cut a b).2) = M.J (List.replicate (M.cut a b).1.length M.dd ++ (M.cut a b).2) := by
            rw [M.count_J _ fun e he => (hXok e he).2.2, M.upPath_J _ _ fun e he => (hYok e he).1, hlen]
          rw [← e2]
          by_cases hY0 : (M.cut a b).2 = []
          · exact rel_up0 s t _ _ w hs ht rfl rfl _ _ N hne' hdot hro' hst' ⟨hhd, fun e => hX0 (hJX.1 e)⟩ (hJY.2 hY0)
          · exact rel_up1 s t _ _ w hs ht rfl rfl _ _ N hne' hdot hro' hst' ⟨hhd, fun e => hX0 (hJX.1 e)⟩ (fun e => hY0 (hJY.1 e))

/-- impl.Rel: a path and whether there was no error -/
def ImplRel (o : Option (List UInt8)) (w : World) (e : Ending) (w' : World) : Prop := e = .returned (.tuple #[.string (S (o.getD [])), .bool o.isSome]) ∧ Below w.heap.size w w'

theorem impl_Rel_of (o : Option (List UInt8)) (s t : ByteArray) (w : World) (h : Calls Try.prog 32 #[.string s, .string t] w (RelIs o w)) :
    Calls Try.prog 17 #[.string s, .string t] w (ImplRel o w) := by
  have H := Lib.hid h
  clear h
  cases o with
  | some z =>
    go_enter Try.func17, Try.ntmps17
    go_wp2_with fail
    refine H.out.mono ?_
    rintro e w1 ⟨rfl, hb⟩
    have HB := Lib.hid hb
    clear hb
    go_wp2_with fail
    go_quiet (fail)
    go_wp2
    go_ret2
    exact ⟨rfl, below_drewN HB.out _⟩
  | none =>
    go_enter Try.func17, Try.ntmps17
    go_wp2_with fail
    refine H.out.mono ?_
    rintro e w1 ⟨ty, v, rfl, hb⟩
    have HB := Lib.hid hb
    clear hb
    go_wp2_with fail
    go_quiet (fail)
    go_wp2
    go_ret2
    exact ⟨rfl, below_drewN HB.out _⟩

theorem impl_Rel_fixed (s t : ByteArray) (r : Bool) (w : World) (hs : s.size ≤ 35184372088832) (ht : t.size ≤ 35184372088832) (hrs : M.ro s.data.toList = r) (hrt : M.ro t.data.toList = r)
    (hfix : r = false → M.E r t.data.toList = [] → M.E r s.data.toList = []) :
    Calls Try.prog 17 #[.string s, .string t] w (ImplRel (M.relOut (M.E r s.data.toList) (M.E r t.data.toList)) w) :=
  impl_Rel_of _ s t w (filepath_Rel_fixed s t r w hs ht hrs hrt hfix)
theorem impl_Rel_mixed (s t : ByteArray) (w : World) (hs : s.size ≤ 35184372088832) (ht : t.size ≤ 35184372088832) (hro : M.ro s.data.toList ≠ M.ro t.data.toList) :
    Calls Try.prog 17 #[.string s, .string t] w (ImplRel none w) :=
  impl_Rel_of none s t w (filepath_Rel_mixed s t w hs ht hro)

end Go.Proofs.Ytedaekkpnjcojaa
