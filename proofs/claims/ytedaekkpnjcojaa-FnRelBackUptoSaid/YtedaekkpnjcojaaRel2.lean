/-
  filepath.Rel: the ways ahead of its loop.
-/
import Derived.Test.YtedaekkpnjcojaaRel1
namespace Go.Proofs.Ytedaekkpnjcojaa
open Go.RowKit Go.Lib
open Go.Lib.Pa (clean isAbs split ext base dir els)

/-- an error -/
def RelErr (w : World) (e : Ending) (w' : World) : Prop := ∃ t v, e = .returned (.tuple #[.string ⟨#[]⟩, .iface t v]) ∧ Below w.heap.size w w'
/-- a path, and no error -/
def RelOk (r : ByteArray) (w : World) (e : Ending) (w' : World) : Prop := e = .returned (.tuple #[.string r, .nilIface]) ∧ Below w.heap.size w w'

theorem beq_self' (a : ByteArray) : (a.toList == a.toList) = true := by simp
theorem beq_ne' {a b : ByteArray} (h : a ≠ b) : (a.toList == b.toList) = false := by
  rw [Lib.toList_data, Lib.toList_data]
  simp only [beq_eq_false_iff_ne, ne_eq]
  intro e
  exact h (by rw [← S_data a, ← S_data b, e])
theorem beq_ne_dot {a : ByteArray} (h : a ≠ ⟨#[46]⟩) : (a.toList == [46]) = false := by
  have := beq_ne' h
  rw [Lib.toList_data ⟨#[46]⟩] at this
  exact this
theorem size_pos_of {l : List UInt8} {B : ByteArray} (h : S (clean l) = B) : 0 < B.size := by
  rw [← h, S_size]; exact List.length_pos_iff.2 (M.clean_ne l)
theorem size_le_of {s B : ByteArray} (h : S (clean s.data.toList) = B) : B.size ≤ s.size + 1 := by
  rw [← h, S_size, Lib.size_eq]; exact M.clean_len_le _

set_option maxHeartbeats 400000 in
set_option maxRecDepth 100000 in
theorem rel_same (s t C : ByteArray) (w : World) (hs : s.size ≤ 35184372088832) (ht : t.size ≤ 35184372088832) (hB : S (clean s.data.toList) = C) (hT : S (clean t.data.toList) = C) :
    Calls Try.prog 32 #[.string s, .string t] w (RelOk ⟨#[46]⟩ w) := by
  have HB := Lib.hid hB
  have HT := Lib.hid hT
  clear hB hT
  go_enter Try.func32, Try.ntmps32
  go_wp2_with fail
  refine (vol_name s _).mono ?_
  rintro e w' ⟨rfl, rfl⟩
  go_wp2_with fail
  refine (vol_name t _).mono ?_
  rintro e w' ⟨rfl, rfl⟩
  go_wp2_with fail
  refine (clean_call s C _ (by omega) HB.out).mono ?_
  rintro e w1 ⟨rfl, hb1⟩
  have HB1 := Lib.hid hb1
  clear hb1
  go_wp2_with fail
  refine (clean_call t C _ (by omega) HT.out).mono ?_
  rintro e w2 ⟨rfl, hb2⟩
  have HB2 := Lib.hid (below_trans HB1.out hb2)
  clear hb2 HB1
  go_wp2_with fail
  refine (sameWord_is C C true w2 (beq_self' C)).mono ?_
  rintro e w' ⟨rfl, rfl⟩
  go_wp2
  go_ret2
  exact ⟨rfl, HB2.out⟩

set_option maxHeartbeats 800000 in
set_option maxRecDepth 100000 in
/-- one is rooted, the other is not; the base is no dot -/
theorem rel_mixed (s t B T : ByteArray) (w : World) (hs : s.size ≤ 35184372088832) (ht : t.size ≤ 35184372088832) (hB : S (clean s.data.toList) = B) (hT : S (clean t.data.toList) = T)
    (hro : M.ro B.data.toList ≠ M.ro T.data.toList) (hdot : B ≠ ⟨#[46]⟩) :
    Calls Try.prog 32 #[.string s, .string t] w (RelErr w) := by
  have hne : T ≠ B := fun e => hro (by rw [e])
  have pB := size_pos_of hB
  have pT := size_pos_of hT
  have lB := size_le_of hB
  have lT := size_le_of hT
  have xB := Pa.extract_all B
  have xT := Pa.extract_all T
  have eB := isEmpty_of_pos pB
  have dB : (B.toList == [46]) = false := beq_ne_dot hdot
  have rB : (((B[0]'pB).toNat : Int) == 47) = M.ro B.data.toList := (Pa.isAbs_pos B pB).symm
  have rT : (((T[0]'pT).toNat : Int) == 47) = M.ro T.data.toList := (Pa.isAbs_pos T pT).symm
  have HB := Lib.hid hB
  have HT := Lib.hid hT
  have HN := Lib.hid hne
  obtain ⟨rb, hrb⟩ : ∃ rb, rb = M.ro B.data.toList := ⟨_, rfl⟩
  obtain ⟨rt, hrt⟩ : ∃ rt, rt = M.ro T.data.toList := ⟨_, rfl⟩
  rw [← hrb] at rB hro
  rw [← hrt] at rT hro
  clear hB hT hne hdot hrb hrt
  obtain ⟨rfl, rfl⟩ | ⟨rfl, rfl⟩ : (rb = true ∧ rt = false) ∨ (rb = false ∧ rt = true) := by cases rb <;> cases rt <;> simp_all
  · clear hro
    go_enter Try.func32, Try.ntmps32
    go_wp2_with fail
    refine (vol_name s _).mono ?_
    rintro e w' ⟨rfl, rfl⟩
    go_wp2_with fail
    refine (vol_name t _).mono ?_
    rintro e w' ⟨rfl, rfl⟩
    go_wp2_with fail
    refine (clean_call s B _ (by omega) HB.out).mono ?_
    rintro e w1 ⟨rfl, hb1⟩
    have HB1 := Lib.hid hb1
    clear hb1
    go_wp2_with fail
    refine (clean_call t T _ (by omega) HT.out).mono ?_
    rintro e w2 ⟨rfl, hb2⟩
    have HB2 := Lib.hid (below_trans HB1.out hb2)
    clear hb2 HB1
    go_wp2_with fail
    refine (sameWord_is T B false w2 (beq_ne' HN.out)).mono ?_
    rintro e w' ⟨rfl, rfl⟩
    go_wp2_with fail
    refine (errors_New _ _).mono ?_
    rintro e w3 ⟨ty, v, rfl, hb3⟩
    have HB3 := Lib.hid (below_trans HB2.out hb3)
    clear hb3
    go_wp2
    go_ret2
    exact ⟨ty, v, rfl, HB3.out⟩
  · clear hro
    go_enter Try.func32, Try.ntmps32
    go_wp2_with fail
    refine (vol_name s _).mono ?_
    rintro e w' ⟨rfl, rfl⟩
    go_wp2_with fail
    refine (vol_name t _).mono ?_
    rintro e w' ⟨rfl, rfl⟩
    go_wp2_with fail
    refine (clean_call s B _ (by omega) HB.out).mono ?_
    rintro e w1 ⟨rfl, hb1⟩
    have HB1 := Lib.hid hb1
    clear hb1
    go_wp2_with fail
    refine (clean_call t T _ (by omega) HT.out).mono ?_
    rintro e w2 ⟨rfl, hb2⟩
    have HB2 := Lib.hid (below_trans HB1.out hb2)
    clear hb2 HB1
    go_wp2_with fail
    refine (sameWord_is T B false w2 (beq_ne' HN.out)).mono ?_
    rintro e w' ⟨rfl, rfl⟩
    go_wp2_with fail
    refine (errors_New _ _).mono ?_
    rintro e w3 ⟨ty, v, rfl, hb3⟩
    have HB3 := Lib.hid (below_trans HB2.out hb3)
    clear hb3
    go_wp2
    go_ret2
    exact ⟨ty, v, rfl, HB3.out⟩

set_option maxHeartbeats 800000 in
set_option maxRecDepth 100000 in
/-- the base is a dot, the target is rooted -/
theorem rel_dot_mixed (s t B T : ByteArray) (w : World) (hs : s.size ≤ 35184372088832) (ht : t.size ≤ 35184372088832) (hB : S (clean s.data.toList) = B) (hT : S (clean t.data.toList) = T)
    (hdot : B = ⟨#[46]⟩) (hro : M.ro T.data.toList = true) :
    Calls Try.prog 32 #[.string s, .string t] w (RelErr w) := by
  have hne : T ≠ B := fun e => by rw [e, hdot] at hro; exact absurd hro (by decide)
  have pB := size_pos_of hB
  have pT := size_pos_of hT
  have lB := size_le_of hB
  have lT := size_le_of hT
  have xB := Pa.extract_all B
  have xT := Pa.extract_all T
  have dB : (B.toList == [46]) = true := by rw [hdot, Lib.toList_data]; decide
  have rT : (((T[0]'pT).toNat : Int) == 47) = true := (Pa.isAbs_pos T pT).symm.trans hro
  have HB := Lib.hid hB
  have HT := Lib.hid hT
  have HN := Lib.hid hne
  clear hB hT hne hro hdot
  go_enter Try.func32, Try.ntmps32
  go_wp2_with fail
  refine (vol_name s _).mono ?_
  rintro e w' ⟨rfl, rfl⟩
  go_wp2_with fail
  refine (vol_name t _).mono ?_
  rintro e w' ⟨rfl, rfl⟩
  go_wp2_with fail
  refine (clean_call s B _ (by omega) HB.out).mono ?_
  rintro e w1 ⟨rfl, hb1⟩
  have HB1 := Lib.hid hb1
  clear hb1
  go_wp2_with fail
  refine (clean_call t T _ (by omega) HT.out).mono ?_
  rintro e w2 ⟨rfl, hb2⟩
  have HB2 := Lib.hid (below_trans HB1.out hb2)
  clear hb2 HB1
  go_wp2_with fail
  refine (sameWord_is T B false w2 (beq_ne' HN.out)).mono ?_
  rintro e w' ⟨rfl, rfl⟩
  go_wp2_with fail
  refine (errors_New _ _).mono ?_
  rintro e w3 ⟨ty, v, rfl, hb3⟩
  have HB3 := Lib.hid (below_trans HB2.out hb3)
  clear hb3
  go_wp2
  go_ret2
  exact ⟨ty, v, rfl, HB3.out⟩

theorem hd_facts (B : ByteArray) (p : Nat) (hp : p ≤ B.size) : ∃ p', p ≤ p' ∧ p' ≤ B.size ∧ B.extract p p' = S (M.hd (B.data.toList.drop p)) ∧
    (∀ k (hk : k < B.size), p ≤ k → k < p' → (((B[k]'hk).toNat : Int) != 47) = true) ∧
    ((B.size ≤ p' ∧ M.tlS (B.data.toList.drop p) = B.data.toList.drop p') ∨ ∃ h : p' < B.size, (((B[p']'h).toNat : Int) != 47) = false ∧ M.tlS (B.data.toList.drop p) = B.data.toList.drop (p' + 1)) := by
  have hl := Lib.size_eq B
  have h1 := M.hd_len (B.data.toList.drop p)
  rw [List.length_drop, ← hl] at h1
  refine ⟨p + (M.hd (B.data.toList.drop p)).length, by omega, by omega, ?_, ?_, ?_⟩
  · rw [Lib.extract_eq, show p + (M.hd (B.data.toList.drop p)).length - p = (M.hd (B.data.toList.drop p)).length by omega, M.hd_take]
    rfl
  · intro k hk h2 h3
    obtain ⟨x, hx, h47⟩ := M.hd_at (b := B.data.toList.drop p) (k := k - p) (by omega)
    rw [List.getElem?_drop, show p + (k - p) = k by omega, Pa.at_eq B k hk] at hx
    injection hx with hx
    rw [hx, Pa.bne47]
    simpa using h47
  · have ht : M.tlS (B.data.toList.drop p) = B.data.toList.drop (p + (M.hd (B.data.toList.drop p)).length + 1) := by
      unfold M.tlS; rw [List.drop_drop]; rfl
    rcases M.hd_stop (B.data.toList.drop p) with h | h
    · left
      rw [List.length_drop, ← hl] at h
      refine ⟨by omega, ?_⟩
      rw [ht, List.drop_eq_nil_of_le (by omega), List.drop_eq_nil_of_le (by omega)]
    · right
      rw [List.getElem?_drop] at h
      have hlt := (List.getElem?_eq_some_iff.1 h).1
      rw [← hl] at hlt
      refine ⟨hlt, ?_, ht⟩
      rw [Pa.at_eq B _ hlt] at h
      injection h with h
      rw [h]; decide
theorem S_inj {a b : List UInt8} (h : S a = S b) : a = b := by
  have := congrArg (fun x : ByteArray => x.data.toList) h
  exact this
theorem S_beq (a b : List UInt8) : ((S a).toList == (S b).toList) = decide (a = b) := by
  rw [Lib.toList_data, Lib.toList_data, S_toList, S_toList, Bool.eq_iff_iff]; simp

end Go.Proofs.Ytedaekkpnjcojaa
