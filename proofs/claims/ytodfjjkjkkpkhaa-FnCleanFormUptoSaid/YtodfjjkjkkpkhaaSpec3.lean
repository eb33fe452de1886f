/-
  Contracts of spec.Elements and spec.Clean.
-/
import Derived.Test.YtodfjjkjkkpkhaaSpec2
namespace Go.Proofs.Ytodfjjkjkkpkhaa
open Go.RowKit Go.Lib
open Go.Lib.Pa (clean isAbs split ext base dir els cleanStep)

/-- a slice's length, as a measure -/
def lenV : Value → Nat
  | .slice _ n _ => n
  | _ => 0
def boolV : Value → Nat
  | .bool true => 1
  | _ => 0

/-- what is known of the elements at each round -/
def ElemsAt (l : List UInt8) (L : List (List UInt8)) (b : Bool) : Prop :=
  L.foldl (cleanStep (M.ro l)) [] = (els l).foldl (cleanStep (M.ro l)) [] ∧ (∀ e ∈ L, 47 ∉ e) ∧ (b = false → L.foldl (cleanStep (M.ro l)) [] = L.reverse)

theorem elems_start (l : List UInt8) : ElemsAt l (els l) true := ⟨rfl, M.els_no47 l, fun h => by cases h⟩
theorem elems_round {l : List UInt8} {L : List (List UInt8)} (h : ElemsAt l L true) : ElemsAt l (M.stepR (M.ro l) L).1 (M.stepR (M.ro l) L).2 := by
  obtain ⟨a1, a2, a3, a4⟩ := M.stepR_spec (r := M.ro l) h.2.1
  refine ⟨a1.trans h.1, a2, fun hb => ?_⟩
  obtain ⟨e1, e2⟩ := a4 hb
  rw [e1]; exact e2
theorem elems_end {l : List UInt8} {L : List (List UInt8)} (h : ElemsAt l L false) : L = M.E (M.ro l) l := by
  unfold M.E
  rw [← h.1, h.2.2 rfl, List.reverse_reverse]
theorem stepR_len (r : Bool) {L : List (List UInt8)} (h : ∀ e ∈ L, 47 ∉ e) : (M.stepR r L).1.length ≤ L.length ∧ 2 * (M.stepR r L).1.length + boolV (.bool (M.stepR r L).2) < 2 * L.length + 1 := by
  obtain ⟨_, _, a3, a4⟩ := M.stepR_spec (r := r) h
  cases hb : (M.stepR r L).2 with
  | true => have := a3 hb; simp only [boolV]; omega
  | false => have := (a4 hb).1; rw [this]; simp [boolV]

set_option maxHeartbeats 400000 in
theorem spec_Elements (s : ByteArray) (w : World) (hs : s.size ≤ 549755813888) :
    Calls Try.prog 26 #[.string s] w fun e w' => ∃ v, e = .returned v ∧ Rd w' v (M.E (M.ro s.data.toList) s.data.toList) ∧ Below w.heap.size w w' := by
  obtain ⟨r, hr⟩ : ∃ r, M.ro s.data.toList = r := ⟨_, rfl⟩
  have hel : (els s.data.toList).length ≤ 1099511627776 := by
    have := M.els_len s.data.toList
    rw [← Lib.size_eq] at this; omega
  have HR := Lib.hid hr
  clear hr
  go_enter Try.func26, Try.ntmps26
  go_wp2_with fail
  refine (spec_Parts s _ (by omega)).mono ?_
  rintro e w1 ⟨v0, rfl, hown, hB⟩
  have hR0 := Rd.of_own hown
  have HR0 := Lib.hid hR0
  have HB0 := Lib.hid hB
  clear hown hR0 hB
  go_wp2
  go_loopw [3, 4] (fun v m wr => ∃ (L : List (List UInt8)) (b : Bool), m = .bool b ∧ Hid (Rd wr v L) ∧ Hid (ElemsAt s.data.toList L b) ∧ L.length ≤ 1099511627776 ∧ Hid (Below w.heap.size w wr)) (fun v m _ => 2 * lenV v + boolV m)
  case atStart => exact ⟨_, true, rfl, HR0.out, elems_start _, hel, HB0.out⟩
  case round =>
    obtain ⟨L, b, rfl, hRd, hEl, hLn, hBw⟩ := hrel
    cases b with
    | true =>
      go_wp2_with fail
      refine (spec_Rooted_is s r _ (by omega) HR.out).mono ?_
      rintro e w' ⟨rfl, rfl⟩
      go_wp2_with fail
      refine (spec_step r _ L _ hRd.out hLn).mono ?_
      rintro e w2 ⟨v2, rfl, hR2, hB2⟩
      have hlen := stepR_len r hEl.out.2.1
      have hEl2 : ElemsAt s.data.toList (M.stepR r L).1 (M.stepR r L).2 := by have := elems_round hEl.out; rwa [HR.out] at this
      have hB3 := below_trans hBw.out hB2
      have hv2 : lenV v2 = (M.stepR r L).1.length := by obtain ⟨A, c, rfl, _⟩ := hR2; rfl
      obtain ⟨A0, c0, hv0, _⟩ := hRd.out
      have hv0' := congrArg lenV hv0
      generalize M.stepR r L = K at hlen hEl2 hR2 hv2 ⊢
      obtain ⟨L2, b2⟩ := K
      have HM := Lib.hid (And.intro hlen (And.intro hv2 hv0'))
      have HE2 := Lib.hid hEl2
      have HB3 := Lib.hid hB3
      have HRd2 := Lib.hid hR2
      clear hlen hEl2 hB3 hR2 hB2 hv2 hv0 hv0' hRd hEl hBw
      go_wp2
      go_roundw
      case rel => exact ⟨L2, b2, rfl, HRd2.out, HE2.out, Nat.le_trans HM.out.1.1 hLn, HB3.out⟩
      case measure =>
        obtain ⟨⟨_, h1⟩, h2, h3⟩ := HM.out
        show 2 * lenV v2 + boolV (.bool b2) < 2 * lenV _ + 1
        rw [h2, h3]
        exact h1
    | false =>
      have hfin := elems_end hEl.out
      have HF := Lib.hid hfin
      clear hfin
      go_wp2
      go_ret
      exact ⟨_, rfl, by rw [← HF.out]; exact hRd.out, hBw.out⟩

set_option maxHeartbeats 400000 in
theorem spec_Clean (s r : ByteArray) (w : World) (hs : s.size ≤ 549755813888) (hr : S (clean s.data.toList) = r) :
    Calls Try.prog 17 #[.string s] w fun e w' => e = .returned (.string r) ∧ Below w.heap.size w w' := by
  rw [M.clean_eq] at hr
  have hl1 := M.J_E_le (M.ro s.data.toList) s.data.toList
  have hl2 := M.E_len (M.ro s.data.toList) s.data.toList
  have hne : M.J (M.E (M.ro s.data.toList) s.data.toList) = [] ↔ M.E (M.ro s.data.toList) s.data.toList = [] := M.J_eq_nil fun e he => (M.ok_E he).1
  rw [← Lib.size_eq] at hl1 hl2
  have hE := fun W => spec_Elements s W hs
  obtain ⟨b, hb⟩ : ∃ b, M.ro s.data.toList = b := ⟨_, rfl⟩
  rw [hb] at hr hl1 hl2 hne hE
  generalize hL : M.E b s.data.toList = L at hr hl1 hl2 hne hE
  have HB := Lib.hid hb
  have HE := Lib.hid hE
  have HR := Lib.hid hr
  have HN := Lib.hid hne
  have t0 := t_empty (M.J L)
  have hsz := S_size (M.J L)
  obtain ⟨j, hj⟩ : ∃ j, S (M.J L) = j := ⟨_, rfl⟩
  rw [hj] at t0 hsz
  have HJ := Lib.hid hj
  have HT := Lib.hid t0
  have hjz : j.size ≤ 549755813888 := by omega
  clear hL hb hE hr hne t0 hj hsz
  go_enter Try.func17, Try.ntmps17
  go_wp2_with fail
  refine (HE.out _).mono ?_
  rintro e w1 ⟨v, rfl, hRd, hB⟩
  have HRd := Lib.hid hRd
  have HBw := Lib.hid hB
  clear hRd hB
  go_wp2_with fail
  refine (spec_Joined v L _ HRd.out (by omega) (by omega)).mono ?_
  rintro e w' ⟨rfl, rfl⟩
  rw [HJ.out]
  go_wp2_with fail
  refine (spec_Rooted_is s b _ (by omega) HB.out).mono ?_
  rintro e w' ⟨rfl, rfl⟩
  cases b with
  | true =>
    go_wp2
    go_ret
    refine ⟨?_, HBw.out⟩
    have h := HR.out
    unfold M.render at h
    simp only [if_true] at h
    have h2 : (⟨#[47]⟩ : ByteArray) ++ j = r := by
      rw [← HJ.out, ← h]; exact S_app [47] (M.J L)
    rw [← h2]; rfl
  | false =>
    have h := HR.out
    unfold M.render at h
    simp only [Bool.false_eq_true, if_false] at h
    by_cases hL0 : L = []
    · have u0 : j.toList.isEmpty = true := by rw [HT.out]; simp [HN.out.2 hL0]
      rw [if_pos hL0] at h
      have HH := Lib.hid h
      clear h hL0
      go_wp2
      go_ret
      exact ⟨by rw [← HH.out]; rfl, HBw.out⟩
    · have u0 : j.toList.isEmpty = false := by rw [HT.out]; simp; intro e; exact hL0 (HN.out.1 e)
      rw [if_neg hL0, HJ.out] at h
      have HH := Lib.hid h
      clear h hL0
      go_wp2
      go_ret
      exact ⟨by rw [← HH.out]; rfl, HBw.out⟩

end Go.Proofs.Ytodfjjkjkkpkhaa
