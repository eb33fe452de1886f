/-
  Plain facts on the elements of a path, over lists of bytes: no program is named here.
-/
import Derived.Lib.CleanSame
import Derived.Lib.JoinSame2
namespace Go.Proofs.Ytkkbbjekiacfeaa.M
open Go.Lib.Pa

abbrev Bs := List UInt8
abbrev Es := List (List UInt8)

/-- some texts with a slash between any two -/
def J (es : Es) : Bs := ([47] : List UInt8).intercalate es
/-- it begins with a slash -/
def ro (l : Bs) : Bool := l.head? == some 47
/-- the elements of a path, cleaned -/
def E (r : Bool) (l : Bs) : Es := ((els l).foldl (cleanStep r) []).reverse
def render (r : Bool) (es : Es) : Bs := if r then 47 :: J es else if es = [] then [46] else J es

/-- an element that stays -/
def Ok (x : Bs) : Prop := x ≠ [] ∧ x ≠ [46] ∧ 47 ∉ x

/-- no rule applies to the stack (the last element first) -/
def NF (r : Bool) : Es → Prop
  | [] => True
  | x :: st => Ok x ∧ (x = [46, 46] → st = [] ∧ r = false ∨ ∃ t, st = [46, 46] :: t) ∧ NF r st

theorem NF.suffix {r : Bool} : ∀ {a b : Es}, NF r (a ++ b) → NF r b
  | [], _, h => h
  | _ :: a, _, h => NF.suffix (a := a) h.2.2

theorem NF.ok {r : Bool} : ∀ {st : Es}, NF r st → ∀ e ∈ st, Ok e
  | [], _, _, h => by simp at h
  | x :: st, hn, e, h => by
    rcases List.mem_cons.1 h with rfl | h
    · exact hn.1
    · exact NF.ok hn.2.2 e h

theorem els_no47 : ∀ (l : Bs), ∀ e ∈ els l, 47 ∉ e
  | [], e, h => by simp [els] at h; subst h; simp
  | c :: t, e, h => by
    have ih := els_no47 t
    unfold els at h
    by_cases hc : c = 47
    · rw [if_pos hc] at h
      rcases List.mem_cons.1 h with rfl | h
      · simp
      · exact ih e h
    · rw [if_neg hc] at h
      obtain ⟨f, r, hr⟩ := els_ne t
      rw [hr] at h ih
      rcases List.mem_cons.1 h with rfl | h
      · have := ih f (by simp)
        simp [this]
        exact fun e => hc e.symm
      · exact ih e (List.mem_cons_of_mem _ h)

theorem nf_step {r : Bool} {st : Es} {e : Bs} (h : NF r st) (he : 47 ∉ e) : NF r (cleanStep r st e) := by
  unfold cleanStep
  by_cases h1 : e = [] ∨ e = [46]
  · rw [if_pos h1]; exact h
  · rw [if_neg h1]
    have hok : Ok e := ⟨fun x => h1 (.inl x), fun x => h1 (.inr x), he⟩
    by_cases h2 : e = [46, 46]
    · rw [if_pos h2]
      cases st with
      | nil =>
        cases r with
        | true => simp [NF]
        | false => simp [NF, hok]
      | cons x t =>
        by_cases h3 : x = [46, 46]
        · simp only [h3, if_true]
          subst h3
          exact ⟨hok, fun _ => .inr ⟨t, rfl⟩, h⟩
        · simp only [h3, if_false]
          exact h.2.2
    · rw [if_neg h2]
      exact ⟨hok, fun e' => absurd e' h2, h⟩

theorem nf_fold {r : Bool} : ∀ (es : Es) {st : Es}, NF r st → (∀ e ∈ es, 47 ∉ e) → NF r (es.foldl (cleanStep r) st)
  | [], _, h, _ => h
  | e :: es, _, h, hs => nf_fold es (nf_step h (hs e (by simp))) fun x hx => hs x (List.mem_cons_of_mem _ hx)

theorem step_of_nf {r : Bool} {st : Es} {e : Bs} (h : NF r (e :: st)) : cleanStep r st e = e :: st := by
  obtain ⟨⟨h0, h1, _⟩, h2, _⟩ := h
  unfold cleanStep
  rw [if_neg (by simp [h0, h1])]
  by_cases hd : e = [46, 46]
  · rw [if_pos hd]
    rcases h2 hd with ⟨rfl, rfl⟩ | ⟨t, rfl⟩ <;> simp
  · rw [if_neg hd]

theorem fold_nf {r : Bool} : ∀ (es st : Es), NF r (es.reverse ++ st) → es.foldl (cleanStep r) st = es.reverse ++ st
  | [], _, _ => rfl
  | e :: es, st, h => by
    rw [List.reverse_cons, List.append_assoc] at h
    have h' : NF r (e :: st) := NF.suffix h
    rw [List.foldl_cons, step_of_nf h', fold_nf es (e :: st) (by simpa using h)]
    simp

theorem fold_nf' {r : Bool} (es : Es) (h : NF r es.reverse) : es.foldl (cleanStep r) [] = es.reverse := by
  have := fold_nf es [] (by simpa using h)
  simpa using this

theorem nf_E (r : Bool) (l : Bs) : NF r (E r l).reverse := by
  unfold E
  rw [List.reverse_reverse]
  exact nf_fold _ (by trivial) (els_no47 l)

theorem ok_E {r : Bool} {l : Bs} {e : Bs} (h : e ∈ E r l) : Ok e := (nf_E r l).ok e (by simpa using h)

theorem els_free {e : Bs} (h : 47 ∉ e) : els e = [e] := by
  have := els_elem e [] h (.inl rfl)
  simpa [tailEls] using this

theorem flat_free : ∀ (es : Es), (∀ e ∈ es, 47 ∉ e) → es.flatMap els = es
  | [], _ => rfl
  | e :: es, h => by
    rw [List.flatMap_cons, els_free (h e (by simp)), flat_free es fun x hx => h x (List.mem_cons_of_mem _ hx)]
    rfl

theorem els_Jf {es : Es} (hne : es ≠ []) (h : ∀ e ∈ es, 47 ∉ e) : els (J es) = es := by
  cases es with
  | nil => exact absurd rfl hne
  | cons y Y => unfold J; rw [els_J, flat_free _ h]

theorem J_els : ∀ (l : Bs), J (els l) = l
  | [] => by simp [els, J, List.intercalate]
  | c :: t => by
    have ih := J_els t
    unfold els
    obtain ⟨f, r, hr⟩ := els_ne t
    rw [hr] at ih
    by_cases hc : c = 47
    · rw [if_pos hc, hr]
      unfold J at ih ⊢
      rw [J_cons, ih, hc]
      rfl
    · rw [if_neg hc, hr]
      simp only
      unfold J at ih ⊢
      cases r with
      | nil => rw [J_one] at ih ⊢; rw [ih]
      | cons g s => rw [J_cons] at ih ⊢; rw [List.cons_append, ih]

theorem J_nil : J [] = [] := rfl
theorem J_single (x : Bs) : J [x] = x := J_one x
theorem J_cons2 (y z : Bs) (Y : Es) : J (y :: z :: Y) = y ++ 47 :: J (z :: Y) := J_cons y z Y

theorem J_eq_nil {es : Es} (h : ∀ e ∈ es, e ≠ []) : J es = [] ↔ es = [] := by
  constructor
  · intro hj
    cases es with
    | nil => rfl
    | cons y Y => exact absurd hj (J_head y Y (h y (by simp))).2
  · rintro rfl; rfl

theorem J_headq {y : Bs} {Y : Es} (hy : y ≠ []) : (J (y :: Y)).head? = y.head? := (J_head y Y hy).1

/-- the elements of what was rendered lead to what was rendered -/
theorem fold_render {r : Bool} {es : Es} (h : NF r es.reverse) : (els (render r es)).foldl (cleanStep r) [] = es.reverse := by
  have h47 : ∀ e ∈ es, 47 ∉ e := fun e he => (h.ok e (by simpa using he)).2.2
  unfold render
  cases r with
  | true =>
    simp only [if_true]
    rw [els_slash, List.foldl_cons, step_nil]
    by_cases he : es = []
    · subst he
      simp [J_nil, els, step_nil]
    · rw [els_Jf he h47]; exact fold_nf' es h
  | false =>
    simp only [Bool.false_eq_true, if_false]
    by_cases he : es = []
    · subst he
      rw [if_pos rfl, els_free (by decide)]
      simp [step_dot]
    · rw [if_neg he, els_Jf he h47]; exact fold_nf' es h

theorem ro_render {r : Bool} {es : Es} (h : NF r es.reverse) : ro (render r es) = r := by
  unfold render ro
  cases r with
  | true => simp
  | false =>
    simp only [Bool.false_eq_true, if_false]
    by_cases he : es = []
    · rw [if_pos he]; rfl
    · rw [if_neg he]
      cases es with
      | nil => exact absurd rfl he
      | cons y Y =>
        have hy := h.ok y (by simp)
        rw [J_headq hy.1]
        obtain ⟨h0, _, h47⟩ := hy
        cases y with
        | nil => exact absurd rfl h0
        | cons c t =>
          simp only [List.head?_cons]
          have : c ≠ 47 := fun e => h47 (by simp [e])
          simpa using this

theorem render_ne {r : Bool} {es : Es} (h : NF r es.reverse) : render r es ≠ [] := by
  unfold render
  cases r with
  | true => simp
  | false =>
    simp only [Bool.false_eq_true, if_false]
    by_cases he : es = []
    · rw [if_pos he]; simp
    · rw [if_neg he]
      intro hj
      exact he ((J_eq_nil fun e he => (h.ok e (by simpa using he)).1).1 hj)

theorem E_render {r : Bool} {es : Es} (h : NF r es.reverse) : E r (render r es) = es := by
  unfold E; rw [fold_render h, List.reverse_reverse]

/-- what Clean gives, by its elements -/
theorem clean_eq (l : Bs) : clean l = render (ro l) (E (ro l) l) := by
  rw [clean_eq_cleanEls]
  by_cases hl : l = []
  · subst hl; rfl
  · have hn : ∀ r, J (E r l) = [] ↔ E r l = [] := fun r => J_eq_nil fun e he => (ok_E he).1
    unfold render ro
    cases hro : (l.head? == some 47) with
    | true =>
      rw [cleanEls_abs l hl hro]; rfl
    | false =>
      rw [cleanEls_rel l hl hro]
      simp only [Bool.false_eq_true, if_false]
      show (if J (E false l) = [] then [46] else J (E false l)) = _
      by_cases he : E false l = []
      · rw [if_pos he, if_pos ((hn false).2 he)]
      · rw [if_neg he, if_neg (fun x => he ((hn false).1 x))]

theorem ro_clean (l : Bs) : ro (clean l) = ro l := by rw [clean_eq, ro_render (nf_E _ _)]
theorem clean_ne (l : Bs) : clean l ≠ [] := by rw [clean_eq]; exact render_ne (nf_E _ _)
theorem E_clean (l : Bs) : E (ro l) (clean l) = E (ro l) l := by rw [clean_eq, E_render (nf_E _ _)]
theorem clean_clean (l : Bs) : clean (clean l) = clean l := by
  rw [clean_eq (clean l), ro_clean, E_clean, ← clean_eq]

theorem clean_of {l l' : Bs} (h : ro l = ro l') (hf : (els l).foldl (cleanStep (ro l)) [] = (els l').foldl (cleanStep (ro l)) []) : clean l = clean l' := by
  rw [clean_eq l, clean_eq l', ← h]
  unfold E
  rw [hf]

theorem fold_clean (l : Bs) : (els (clean l)).foldl (cleanStep (ro l)) [] = (els l).foldl (cleanStep (ro l)) [] := by
  have := congrArg List.reverse (E_clean l)
  unfold E at this
  simpa using this

theorem ro_app {a b : Bs} (h : a ≠ []) : ro (a ++ b) = ro a := by
  cases a with
  | nil => exact absurd rfl h
  | cons c t => rfl

theorem ro_sl (a b b' : Bs) : ro (a ++ 47 :: b) = ro (a ++ 47 :: b') := by
  cases a <;> rfl

/-- FnCleanHead -/
theorem clean_head {a b : Bs} (h : a ≠ []) : clean (clean a ++ 47 :: b) = clean (a ++ 47 :: b) := by
  have h1 : ro (clean a ++ 47 :: b) = ro a := by rw [ro_app (clean_ne a), ro_clean]
  have h2 : ro (a ++ 47 :: b) = ro a := ro_app h
  refine clean_of (h1.trans h2.symm) ?_
  rw [h1, els_app, els_app, List.foldl_append, List.foldl_append, fold_clean]

/-- FnCleanInside -/
theorem clean_in_dot (a b : Bs) : clean (a ++ 47 :: 46 :: 47 :: b) = clean (a ++ 47 :: b) := by
  refine clean_of (ro_sl ..) ?_
  have e : (46 : UInt8) :: 47 :: b = [46] ++ 47 :: b := rfl
  rw [els_app, els_app, e, els_app, els_free (e := [46]) (by decide)]
  simp [step_dot]
theorem clean_in_slash (a b : Bs) : clean (a ++ 47 :: 47 :: b) = clean (a ++ 47 :: b) := by
  refine clean_of (ro_sl ..) ?_
  rw [els_app, els_app, els_slash]
  simp [step_nil]
theorem clean_in_up {x : Bs} (a b : Bs) (h0 : x ≠ []) (h1 : x ≠ [46]) (h2 : x ≠ [46, 46]) (h47 : 47 ∉ x) :
    clean (a ++ 47 :: (x ++ 47 :: 46 :: 46 :: 47 :: b)) = clean (a ++ 47 :: b) := by
  refine clean_of (ro_sl ..) ?_
  have e : (46 : UInt8) :: 46 :: 47 :: b = [46, 46] ++ 47 :: b := rfl
  rw [els_app, els_app, els_app, e, els_app, els_free h47, els_free (e := [46, 46]) (by decide)]
  simp only [List.foldl_append, List.foldl_cons, List.foldl_nil]
  rw [step_elem _ _ _ h0 h1 h2]
  congr 1
  simp [cleanStep, h2]

theorem fold_nils (r : Bool) (st : Es) : ∀ n, (List.replicate n ([] : Bs)).foldl (cleanStep r) st = st
  | 0 => rfl
  | n + 1 => by rw [List.replicate_succ, List.foldl_cons, step_nil, fold_nils r st n]

theorem els_slashes (a : Bs) : ∀ n, els (a ++ List.replicate n 47) = els a ++ List.replicate n []
  | 0 => by simp
  | n + 1 => by
    have e : a ++ List.replicate (n + 1) 47 = (a ++ List.replicate n 47) ++ 47 :: [] := by
      rw [List.replicate_succ', List.append_assoc]
    rw [e, els_app, els_slashes a n, List.append_assoc, List.replicate_succ']
    rfl

/-- FnCleanTail -/
theorem clean_tail {a : Bs} (h : a ≠ []) (n : Nat) : clean (a ++ List.replicate n 47) = clean a := by
  refine clean_of (ro_app h) ?_
  rw [els_slashes, List.foldl_append, fold_nils]

/-- the path "/" with n times "../" behind it -/
def ups : Nat → Bs
  | 0 => [47]
  | n + 1 => ups n ++ [46, 46, 47]

theorem els_ups (b : Bs) : ∀ n, els (ups n ++ b) = [] :: (List.replicate n [46, 46] ++ els b)
  | 0 => by simp [ups, els_slash]
  | n + 1 => by
    have e : ups (n + 1) ++ b = ups n ++ ([46, 46] ++ 47 :: b) := by simp [ups]
    rw [e, els_ups _ n, els_app, els_free (by decide), List.replicate_succ', List.append_assoc]

theorem fold_dds : ∀ n, (List.replicate n ([46, 46] : Bs)).foldl (cleanStep true) [] = []
  | 0 => rfl
  | n + 1 => by rw [List.replicate_succ, List.foldl_cons]; simp only [cleanStep]; simpa using fold_dds n

theorem ro_ups (n : Nat) (b : Bs) : ro (ups n ++ b) = true := by
  have h : ∀ n, ∃ t, ups n = 47 :: t := by
    intro n
    induction n with
    | zero => exact ⟨[], rfl⟩
    | succ n ih => obtain ⟨t, ht⟩ := ih; exact ⟨t ++ [46, 46, 47], by simp [ups, ht]⟩
  obtain ⟨t, ht⟩ := h n
  rw [ht]; rfl

/-- FnRootUp -/
theorem clean_ups (n : Nat) (b : Bs) : clean (ups n ++ b) = clean (47 :: b) := by
  have h1 := ro_ups n b
  refine clean_of (by rw [h1]; rfl) ?_
  rw [h1, els_ups, els_slash]
  simp only [List.foldl_cons, step_nil, List.foldl_append, fold_dds]

end Go.Proofs.Ytkkbbjekiacfeaa.M
