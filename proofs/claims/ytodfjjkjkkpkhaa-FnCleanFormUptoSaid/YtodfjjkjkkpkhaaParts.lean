/-
  Plain facts on the last slash and the last dot of a path, over lists of bytes: no program is named here.
-/
import Derived.Test.YtodfjjkjkkpkhaaMath
namespace Go.Proofs.Ytodfjjkjkkpkhaa.M
open Go.Lib.Pa

theorem last_none {l : Bs} {c : UInt8} (h : c ∉ l) : lastIndexByte l c = -1 :=
  lastIdx_none l c _ fun _ _ e => h (List.mem_of_getElem? e)

theorem last_mk {a b : Bs} {c : UInt8} (h : c ∉ b) : lastIndexByte (a ++ c :: b) c = a.length := by
  refine lastIdx_eq_of _ c a.length _ (by simp) (by simp) ?_
  intro j h1 _ e
  rw [List.getElem?_append_right (by omega), show j - a.length = (j - a.length - 1) + 1 by omega, List.getElem?_cons_succ] at e
  exact h (List.mem_of_getElem? e)

theorem cut_last (c : UInt8) : ∀ (l : Bs), c ∉ l ∨ ∃ a b, l = a ++ c :: b ∧ c ∉ b
  | [] => .inl (by simp)
  | x :: t => by
    rcases cut_last c t with h | ⟨a, b, rfl, hb⟩
    · by_cases hx : x = c
      · subst hx; exact .inr ⟨[], t, rfl, h⟩
      · refine .inl ?_
        simp only [List.mem_cons, not_or]
        exact ⟨fun e => hx e.symm, h⟩
    · exact .inr ⟨x :: a, b, rfl, hb⟩

theorem split_free {l : Bs} (h : 47 ∉ l) : split l = ([], l) := by
  unfold split; rw [last_none h]; rfl
theorem split_mk {a b : Bs} (h : 47 ∉ b) : split (a ++ 47 :: b) = (a ++ [47], b) := by
  unfold split
  rw [last_mk h, show ((a.length : Int) + 1).toNat = a.length + 1 by omega]
  simp [List.take_append, List.drop_append, List.take_of_length_le]

theorem split_back (l : Bs) : (split l).1 ++ (split l).2 = l := by simp [split]
theorem split_snd (l : Bs) : 47 ∉ (split l).2 := by
  rcases cut_last 47 l with h | ⟨a, b, rfl, hb⟩
  · rw [split_free h]; exact h
  · rw [split_mk hb]; exact hb
theorem split_fst (l : Bs) : (split l).1 = [] ∨ (split l).1.getLast? = some 47 := by
  rcases cut_last 47 l with h | ⟨a, b, rfl, hb⟩
  · rw [split_free h]; exact .inl rfl
  · rw [split_mk hb]; exact .inr (by simp)

/-- the extension of a file's name -/
def extF (f : Bs) : Bs := if 0 ≤ lastIndexByte f 46 then f.drop (lastIndexByte f 46).toNat else []
theorem ext_split (l : Bs) : ext l = extF (split l).2 := rfl
theorem extF_none {f : Bs} (h : 46 ∉ f) : extF f = [] := by unfold extF; rw [last_none h]; rfl
theorem extF_mk {a b : Bs} (h : 46 ∉ b) : extF (a ++ 46 :: b) = 46 :: b := by
  unfold extF; rw [last_mk h, if_pos (by omega)]; simp

theorem ext_cases (l : Bs) : ext l = [] ∨ ∃ a b, ext l = 46 :: b ∧ l = a ++ 46 :: b ∧ 46 ∉ b ∧ 47 ∉ b := by
  rw [ext_split]
  have hb := split_back l
  have h47 := split_snd l
  generalize (split l).2 = f at *
  generalize (split l).1 = d at *
  rcases cut_last 46 f with h | ⟨a, b, rfl, h⟩
  · exact .inl (extF_none h)
  · exact .inr ⟨d ++ a, b, extF_mk h, by rw [← hb]; simp, h, fun e => h47 (by simp [e])⟩

theorem ext_more (l : Bs) : ext (l ++ [46, 120]) = [46, 120] := by
  have h2 : (46 : UInt8) ∉ [(120 : UInt8)] := by decide
  rw [ext_split]
  rcases cut_last 47 l with h | ⟨a, b, rfl, hb⟩
  · rw [split_free (by simp [h])]; exact extF_mk h2
  · have e : (a ++ 47 :: b) ++ [46, 120] = a ++ 47 :: (b ++ [46, 120]) := by simp
    rw [e, split_mk (by simp [hb])]; exact extF_mk h2

theorem ext_slash (l : Bs) : ext (l ++ [47]) = [] := by
  rw [ext_split, split_mk (by simp)]; rfl

theorem trim_free {a f : Bs} (h0 : f ≠ []) (h : 47 ∉ f) : trimSlashes (a ++ f) = a ++ f := by
  unfold trimSlashes
  rw [List.reverse_append]
  cases hr : f.reverse with
  | nil => exact absurd (List.reverse_eq_nil_iff.1 hr) h0
  | cons c t =>
    have hc : c ≠ 47 := fun e => h (by rw [← List.mem_reverse, hr, e]; simp)
    rw [List.cons_append, List.dropWhile_cons_of_neg (by simpa using hc), ← List.cons_append, ← hr]
    simp

theorem dw_idem (p : UInt8 → Bool) : ∀ l : Bs, (l.dropWhile p).dropWhile p = l.dropWhile p
  | [] => rfl
  | x :: t => by
    by_cases h : p x = true
    · rw [List.dropWhile_cons_of_pos h]; exact dw_idem p t
    · rw [List.dropWhile_cons_of_neg h, List.dropWhile_cons_of_neg h]

theorem trim_slash (l : Bs) : trimSlashes (l ++ [47]) = trimSlashes l := by
  unfold trimSlashes
  simp

theorem base_slash {l : Bs} (h : l ≠ []) : base (l ++ [47]) = base l := by
  unfold base
  rw [trim_slash, if_neg (by simp), if_neg h]

theorem base_file {f : Bs} (a : Bs) (h0 : f ≠ []) (h : 47 ∉ f) : base (a ++ 47 :: f) = f := by
  unfold base
  have e : a ++ 47 :: f = (a ++ [47]) ++ f := by simp
  rw [if_neg (by simp), e, trim_free h0 h, ← e, split_mk h]
  simp [h0]

theorem base_name {f : Bs} (h0 : f ≠ []) (h : 47 ∉ f) : base f = f := by
  unfold base
  have e := trim_free (a := []) h0 h
  rw [List.nil_append] at e
  rw [if_neg h0, e, split_free h]
  simp [h0]

theorem base_cases (l : Bs) : base l = [47] ∨ base l ≠ [] ∧ 47 ∉ base l := by
  unfold base
  by_cases h : l = []
  · rw [if_pos h]; exact .inr (by decide)
  · rw [if_neg h]
    by_cases h2 : (split (trimSlashes l)).2 = []
    · rw [if_pos h2]; exact .inl rfl
    · rw [if_neg h2]; exact .inr ⟨h2, split_snd _⟩

theorem base_base (l : Bs) : base (base l) = base l := by
  rcases base_cases l with h | ⟨h0, h⟩
  · rw [h]; decide
  · exact base_name h0 h
theorem base_ne (l : Bs) : base l ≠ [] := by
  rcases base_cases l with h | ⟨h0, _⟩
  · rw [h]; simp
  · exact h0

/-- where the slashes at the end are gone: what spec.Base gives -/
theorem base_trim {l t : Bs} (hl : l ≠ []) (ht : t = trimSlashes l) : (t = [] → base l = [47]) ∧ (t ≠ [] → base l = (split t).2) := by
  unfold base
  rw [if_neg hl, ← ht]
  constructor
  · rintro rfl; rfl
  · intro h
    rcases cut_last 47 t with h47 | ⟨a, b, rfl, hb⟩
    · rw [split_free h47]; simp [h]
    · rw [split_mk hb]
      have hbn : b ≠ [] := by
        rintro rfl
        have e : trimSlashes (a ++ [47]) = a ++ [47] := by
          conv => lhs; rw [ht]
          rw [ht]
          unfold trimSlashes
          simp [dw_idem]
        rw [trim_slash] at e
        have hle : (trimSlashes a).length ≤ a.length := by
          unfold trimSlashes
          rw [List.length_reverse]
          exact Nat.le_trans (List.dropWhile_sublist _).length_le (by simp)
        rw [e, List.length_append, List.length_singleton] at hle
        omega
      simp [hbn]

end Go.Proofs.Ytodfjjkjkkpkhaa.M
