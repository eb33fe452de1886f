/-
  Plain facts on the elements of a path, over lists of bytes: no program is named here.
-/
import Derived.Lib.CleanSame
import Derived.Lib.JoinSame2
namespace Go.Proofs.Ytodfjjkjkkpkhaa.M
open Go.Lib.Pa

abbrev Bs := List UInt8
abbrev Es := List (List UInt8)

/-- some texts with a slash between any two -/
def J (es : Es) : Bs := ([47] : List UInt8).intercalate es
/-- it begins with a slash -/
def ro (l : Bs) : Bool := l.head? == some 47
/-- the elements of a path, cleaned -/
def E (r : Bool) (l : Bs) : Es := ((els l).foldl (cleanStep r) []).reverse
def render (r : Bool) (es : Es) : Bs := if r then 47 :: J es else if es = [] then [46] else J es

/-- an element that stays -/
def Ok (x : Bs) : Prop := x ≠ [] ∧ x ≠ [46] ∧ 47 ∉ x

/-- no rule applies to the stack (the last element first) -/
def NF (r : Bool) : Es → Prop
  | [] => True
  | x :: st => Ok x ∧ (x = [46, 46] → st = [] ∧ r = false ∨ ∃ t, st = [46, 46] :: t) ∧ NF r st

theorem NF.suffix {r : Bool} : ∀ {a b : Es}, NF r (a ++ b) → NF r b
  | [], _, h => h
  | _ :: a, _, h => NF.suffix (a := a) h.2.2

theorem NF.ok {r : Bool} : ∀ {st : Es}, NF r st → ∀ e ∈ st, Ok e
  | [], _, _, h => by simp at h
  | x :: st, hn, e, h => by
    rcases List.mem_cons.1 h with rfl | h
    · exact hn.1
    · exact NF.ok hn.2.2 e h

theorem els_no47 : ∀ (l : Bs), ∀ e ∈ els l, 47 ∉ e
  | [], e, h => by simp [els] at h; subst h; simp
  | c :: t, e, h => by
    have ih := els_no47 t
    unfold els at h
    by_cases hc : c = 47
    · rw [if_pos hc] at h
      rcases List.mem_cons.1 h with rfl | h
      · simp
      · exact ih e h
    · rw [if_neg hc] at h
      obtain ⟨f, r, hr⟩ := els_ne t
      rw [hr] at h ih
      rcases List.mem_cons.1 h with rfl | h
      · have := ih f (by simp)
        simp [this]
        exact fun e => hc e.symm
      · exact ih e (List.mem_cons_of_mem _ h)

theorem nf_step {r : Bool} {st : Es} {e : Bs} (h : NF r st) (he : 47 ∉ e) : NF r (cleanStep r st e) := by
  unfold cleanStep
  by_cases h1 : e = [] ∨ e = [46]
  · rw [if_pos h1]; exact h
  · rw [if_neg h1]
    have hok : Ok e := ⟨fun x => h1 (.inl x), fun x => h1 (.inr x), he⟩
    by_cases h2 : e = [46, 46]
    · rw [if_pos h2]
      cases st with
      | nil =>
        cases r with
        | true => simp [NF]
        | false => simp [NF, hok]
      | cons x t =>
        by_cases h3 : x = [46, 46]
        · simp only [h3, if_true]
          subst h3
          exact ⟨hok, fun _ => .inr ⟨t, rfl⟩, h⟩
        · simp only [h3, if_false]
          exact h.2.2
    · rw [if_neg h2]
      exact ⟨hok, fun e' => absurd e' h2, h⟩

theorem nf_fold {r : Bool} : ∀ (es : Es) {st : Es}, NF r st → (∀ e ∈ es, 47 ∉ e) → NF r (es.foldl (cleanStep r) st)
  | [], _, h, _ => h
  | e :: es, _, h, hs => nf_fold es (nf_step h (hs e (by simp))) fun x hx => hs x (List.mem_cons_of_mem _ hx)

theorem step_of_nf {r : Bool} {st : Es} {e : Bs} (h : NF r (e :: st)) : cleanStep r st e = e :: st := by
  obtain ⟨⟨h0, h1, _⟩, h2, _⟩ := h
  unfold cleanStep
  rw [if_neg (by simp [h0, h1])]
  by_cases hd : e = [46, 46]
  · rw [if_pos hd]
    rcases h2 hd with ⟨rfl, rfl⟩ | ⟨t, rfl⟩ <;> simp
  · rw [if_neg hd]

theorem fold_nf {r : Bool} : ∀ (es st : Es), NF r (es.reverse ++ st) → es.foldl (cleanStep r) st = es.reverse ++ st
  | [], _, _ => rfl
  | e :: es, st, h => by
    rw [List.reverse_cons, List.append_assoc] at h
    have h' : NF r (e :: st) := NF.suffix h
    rw [List.foldl_cons, step_of_nf h', fold_nf es (e :: st) (by simpa using h)]
    simp

theorem fold_nf' {r : Bool} (es : Es) (h : NF r es.reverse) : es.foldl (cleanStep r) [] = es.reverse := by
  have := fold_nf es [] (by simpa using h)
  simpa using this

theorem nf_E (r : Bool) (l : Bs) : NF r (E r l).reverse := by
  unfold E
  rw [List.reverse_reverse]
  exact nf_fold _ (by trivial) (els_no47 l)

theorem ok_E {r : Bool} {l : Bs} {e : Bs} (h : e ∈ E r l) : Ok e := (nf_E r l).ok e (by simpa using h)

theorem els_free {e : Bs} (h : 47 ∉ e) : els e = [e] := by
  have := els_elem e [] h (.inl rfl)
  simpa [tailEls] using this

theorem flat_free : ∀ (es : Es), (∀ e ∈ es, 47 ∉ e) → es.flatMap els = es
  | [], _ => rfl
  | e :: es, h => by
    rw [List.flatMap_cons, els_free (h e (by simp)), flat_free es fun x hx => h x (List.mem_cons_of_mem _ hx)]
    rfl

theorem els_Jf {es : Es} (hne : es ≠ []) (h : ∀ e ∈ es, 47 ∉ e) : els (J es) = es := by
  cases es with
  | nil => exact absurd rfl hne
  | cons y Y => unfold J; rw [els_J, flat_free _ h]

theorem J_els : ∀ (l : Bs), J (els l) = l
  | [] => by simp [els, J, List.intercalate]
  | c :: t => by
    have ih := J_els t
    unfold els
    obtain ⟨f, r, hr⟩ := els_ne t
    rw [hr] at ih
    by_cases hc : c = 47
    · rw [if_pos hc, hr]
      unfold J at ih ⊢
      rw [J_cons, ih, hc]
      rfl
    · rw [if_neg hc, hr]
      simp only
      unfold J at ih ⊢
      cases r with
      | nil => rw [J_one] at ih ⊢; rw [ih]
      | cons g s => rw [J_cons] at ih ⊢; rw [List.cons_append, ih]

theorem J_nil : J [] = [] := rfl
theorem J_single (x : Bs) : J [x] = x := J_one x
theorem J_cons2 (y z : Bs) (Y : Es) : J (y :: z :: Y) = y ++ 47 :: J (z :: Y) := J_cons y z Y

theorem J_eq_nil {es : Es} (h : ∀ e ∈ es, e ≠ []) : J es = [] ↔ es = [] := by
  constructor
  · intro hj
    cases es with
    | nil => rfl
    | cons y Y => exact absurd hj (J_head y Y (h y (by simp))).2
  · rintro rfl; rfl

theorem J_headq {y : Bs} {Y : Es} (hy : y ≠ []) : (J (y :: Y)).head? = y.head? := (J_head y Y hy).1

/-- the elements of what was rendered lead to what was rendered -/
theorem fold_render {r : Bool} {es : Es} (h : NF r es.reverse) : (els (render r es)).foldl (cleanStep r) [] = es.reverse := by
  have h47 : ∀ e ∈ es, 47 ∉ e := fun e he => (h.ok e (by simpa using he)).2.2
  unfold render
  cases r with
  | true =>
    simp only [if_true]
    rw [els_slash, List.foldl_cons, step_nil]
    by_cases he : es = []
    · subst he
      simp [J_nil, els, step_nil]
    · rw [els_Jf he h47]; exact fold_nf' es h
  | false =>
    simp only [Bool.false_eq_true, if_false]
    by_cases he : es = []
    · subst he
      rw [if_pos rfl, els_free (by decide)]
      simp [step_dot]
    · rw [if_neg he, els_Jf he h47]; exact fold_nf' es h

theorem ro_render {r : Bool} {es : Es} (h : NF r es.reverse) : ro (render r es) = r := by
  unfold render ro
  cases r with
  | true => simp
  | false =>
    simp only [Bool.false_eq_true, if_false]
    by_cases he : es = []
    · rw [if_pos he]; rfl
    · rw [if_neg he]
      cases es with
      | nil => exact absurd rfl he
      | cons y Y =>
        have hy := h.ok y (by simp)
        rw [J_headq hy.1]
        obtain ⟨h0, _, h47⟩ := hy
        cases y with
        | nil => exact absurd rfl h0
        | cons c t =>
          simp only [List.head?_cons]
          have : c ≠ 47 := fun e => h47 (by simp [e])
          simpa using this

theorem render_ne {r : Bool} {es : Es} (h : NF r es.reverse) : render r es ≠ [] := by
  unfold render
  cases r with
  | true => simp
  | false =>
    simp only [Bool.false_eq_true, if_false]
    by_cases he : es = []
    · rw [if_pos he]; simp
    · rw [if_neg he]
      intro hj
      exact he ((J_eq_nil fun e he => (h.ok e (by simpa using he)).1).1 hj)

theorem E_render {r : Bool} {es : Es} (h : NF r es.reverse) : E r (render r es) = es := by
  unfold E; rw [fold_render h, List.reverse_reverse]

/-- what Clean gives, by its elements -/
theorem clean_eq (l : Bs) : clean l = render (ro l) (E (ro l) l) := by
  rw [clean_eq_cleanEls]
  by_cases hl : l = []
  · subst hl; rfl
  · have hn : ∀ r, J (E r l) = [] ↔ E r l = [] := fun r => J_eq_nil fun e he => (ok_E he).1
    unfold render ro
    cases hro : (l.head? == some 47) with
    | true =>
      rw [cleanEls_abs l hl hro]; rfl
    | false =>
      rw [cleanEls_rel l hl hro]
      simp only [Bool.false_eq_true, if_false]
      show (if J (E false l) = [] then [46] else J (E false l)) = _
      by_cases he : E false l = []
      · rw [if_pos he, if_pos ((hn false).2 he)]
      · rw [if_neg he, if_neg (fun x => he ((hn false).1 x))]

theorem ro_clean (l : Bs) : ro (clean l) = ro l := by rw [clean_eq, ro_render (nf_E _ _)]
theorem clean_ne (l : Bs) : clean l ≠ [] := by rw [clean_eq]; exact render_ne (nf_E _ _)
theorem E_clean (l : Bs) : E (ro l) (clean l) = E (ro l) l := by rw [clean_eq, E_render (nf_E _ _)]
theorem clean_clean (l : Bs) : clean (clean l) = clean l := by
  rw [clean_eq (clean l), ro_clean, E_clean, ← clean_eq]

theorem clean_of {l l' : Bs} (h : ro l = ro l') (hf : (els l).foldl (cleanStep (ro l)) [] = (els l').foldl (cleanStep (ro l)) []) : clean l = clean l' := by
  rw [clean_eq l, clean_eq l', ← h]
  unfold E
  rw [hf]

theorem fold_clean (l : Bs) : (els (clean l)).foldl (cleanStep (ro l)) [] = (els l).foldl (cleanStep (ro l)) [] := by
  have := congrArg List.reverse (E_clean l)
  unfold E at this
  simpa using this

theorem ro_app {a b : Bs} (h : a ≠ []) : ro (a ++ b) = ro a := by
  cases a with
  | nil => exact absurd rfl h
  | cons c t => rfl

theorem ro_sl (a b b' : Bs) : ro (a ++ 47 :: b) = ro (a ++ 47 :: b') := by
  cases a <;> rfl

theorem els_snoc {c : UInt8} (hc : c ≠ 47) : ∀ (a : Bs) (D : Es) (x : Bs), els a = D ++ [x] → els (a ++ [c]) = D ++ [x ++ [c]]
  | [], D, x, h => by
    have h' : D ++ [x] = [] ++ [([] : Bs)] := by rw [← h]; rfl
    have hd := List.append_inj' h' rfl
    obtain ⟨rfl, hx⟩ := hd
    simp only [List.cons.injEq, and_true] at hx
    subst hx
    simp [els, hc]
  | y :: a, D, x, h => by
    obtain ⟨f, r, hr⟩ := els_ne a
    unfold els at h
    by_cases hy : y = 47
    · rw [if_pos hy] at h
      cases D with
      | nil =>
        rw [hr] at h; simp at h
      | cons d D =>
        simp only [List.cons_append, List.cons.injEq] at h
        obtain ⟨rfl, h2⟩ := h
        have ih := els_snoc hc a D x h2
        simp only [List.cons_append]
        rw [els, if_pos hy, ih]
    · rw [if_neg hy, hr] at h
      simp only at h
      rw [List.cons_append, els, if_neg hy]
      cases D with
      | nil =>
        simp only [List.nil_append, List.cons.injEq] at h
        obtain ⟨h1, h2⟩ := h
        have ih := els_snoc hc a [] f (by rw [hr, h2]; rfl)
        rw [ih, ← h1]
        rfl
      | cons d D =>
        simp only [List.cons_append, List.cons.injEq] at h
        obtain ⟨h1, h2⟩ := h
        have ih := els_snoc hc a (f :: D) x (by rw [hr, h2]; rfl)
        rw [ih, ← h1]
        rfl

theorem els_snoc_slash (a : Bs) : els (a ++ [47]) = els a ++ [[]] := by
  rw [els_app]; rfl

theorem J_snoc (x : Bs) {L : Es} (h : L ≠ []) : J (L ++ [x]) = J L ++ 47 :: x := by
  unfold J; exact inter_snoc x L h

theorem J_app : ∀ (a b : Es), a ≠ [] → b ≠ [] → J (a ++ b) = J a ++ 47 :: J b
  | [], _, h, _ => absurd rfl h
  | [x], b, _, hb => by
    cases b with
    | nil => exact absurd rfl hb
    | cons z Y => rw [List.singleton_append, J_cons2, J_single]
  | x :: y :: r, b, _, hb => by
    have ih := J_app (y :: r) b (by simp) hb
    rw [List.cons_append, List.cons_append, J_cons2, ← List.cons_append, ih, J_cons2, List.append_assoc]
    rfl
theorem J_take_le (L : Es) (k : Nat) : (J (L.take k)).length ≤ (J L).length := by
  by_cases h1 : L.take k = []
  · rw [h1]; exact Nat.zero_le _
  · by_cases h2 : L.drop k = []
    · have e := List.take_append_drop k L
      rw [h2, List.append_nil] at e
      rw [e]; exact Nat.le_refl _
    · conv => rhs; rw [← List.take_append_drop k L, J_app _ _ h1 h2]
      simp

/-- FnCleanHead -/
theorem clean_head {a b : Bs} (h : a ≠ []) : clean (clean a ++ 47 :: b) = clean (a ++ 47 :: b) := by
  have h1 : ro (clean a ++ 47 :: b) = ro a := by rw [ro_app (clean_ne a), ro_clean]
  have h2 : ro (a ++ 47 :: b) = ro a := ro_app h
  refine clean_of (h1.trans h2.symm) ?_
  rw [h1, els_app, els_app, List.foldl_append, List.foldl_append, fold_clean]

/-- FnCleanInside -/
theorem clean_in_dot (a b : Bs) : clean (a ++ 47 :: 46 :: 47 :: b) = clean (a ++ 47 :: b) := by
  refine clean_of (ro_sl ..) ?_
  have e : (46 : UInt8) :: 47 :: b = [46] ++ 47 :: b := rfl
  rw [els_app, els_app, e, els_app, els_free (e := [46]) (by decide)]
  simp [step_dot]
theorem clean_in_slash (a b : Bs) : clean (a ++ 47 :: 47 :: b) = clean (a ++ 47 :: b) := by
  refine clean_of (ro_sl ..) ?_
  rw [els_app, els_app, els_slash]
  simp [step_nil]
theorem clean_in_up {x : Bs} (a b : Bs) (h0 : x ≠ []) (h1 : x ≠ [46]) (h2 : x ≠ [46, 46]) (h47 : 47 ∉ x) :
    clean (a ++ 47 :: (x ++ 47 :: 46 :: 46 :: 47 :: b)) = clean (a ++ 47 :: b) := by
  refine clean_of (ro_sl ..) ?_
  have e : (46 : UInt8) :: 46 :: 47 :: b = [46, 46] ++ 47 :: b := rfl
  rw [els_app, els_app, els_app, e, els_app, els_free h47, els_free (e := [46, 46]) (by decide)]
  simp only [List.foldl_append, List.foldl_cons, List.foldl_nil]
  rw [step_elem _ _ _ h0 h1 h2]
  congr 1
  simp [cleanStep, h2]

theorem fold_nils (r : Bool) (st : Es) : ∀ n, (List.replicate n ([] : Bs)).foldl (cleanStep r) st = st
  | 0 => rfl
  | n + 1 => by rw [List.replicate_succ, List.foldl_cons, step_nil, fold_nils r st n]

theorem els_slashes (a : Bs) : ∀ n, els (a ++ List.replicate n 47) = els a ++ List.replicate n []
  | 0 => by simp
  | n + 1 => by
    have e : a ++ List.replicate (n + 1) 47 = (a ++ List.replicate n 47) ++ 47 :: [] := by
      rw [List.replicate_succ', List.append_assoc]
    rw [e, els_app, els_slashes a n, List.append_assoc, List.replicate_succ']
    rfl

/-- FnCleanTail -/
theorem clean_tail {a : Bs} (h : a ≠ []) (n : Nat) : clean (a ++ List.replicate n 47) = clean a := by
  refine clean_of (ro_app h) ?_
  rw [els_slashes, List.foldl_append, fold_nils]

/-- the path "/" with n times "../" behind it -/
def ups : Nat → Bs
  | 0 => [47]
  | n + 1 => ups n ++ [46, 46, 47]

theorem els_ups (b : Bs) : ∀ n, els (ups n ++ b) = [] :: (List.replicate n [46, 46] ++ els b)
  | 0 => by simp [ups, els_slash]
  | n + 1 => by
    have e : ups (n + 1) ++ b = ups n ++ ([46, 46] ++ 47 :: b) := by simp [ups]
    rw [e, els_ups _ n, els_app, els_free (by decide), List.replicate_succ', List.append_assoc]

theorem fold_dds : ∀ n, (List.replicate n ([46, 46] : Bs)).foldl (cleanStep true) [] = []
  | 0 => rfl
  | n + 1 => by rw [List.replicate_succ, List.foldl_cons]; simp only [cleanStep]; simpa using fold_dds n

theorem ro_ups (n : Nat) (b : Bs) : ro (ups n ++ b) = true := by
  have h : ∀ n, ∃ t, ups n = 47 :: t := by
    intro n
    induction n with
    | zero => exact ⟨[], rfl⟩
    | succ n ih => obtain ⟨t, ht⟩ := ih; exact ⟨t ++ [46, 46, 47], by simp [ups, ht]⟩
  obtain ⟨t, ht⟩ := h n
  rw [ht]; rfl

/-- FnRootUp -/
theorem clean_ups (n : Nat) (b : Bs) : clean (ups n ++ b) = clean (47 :: b) := by
  have h1 := ro_ups n b
  refine clean_of (by rw [h1]; rfl) ?_
  rw [h1, els_ups, els_slash]
  simp only [List.foldl_cons, step_nil, List.foldl_append, fold_dds]

/-- one rule of Clean applied at the first place at which one applies; 'pre': the elements that were passed, the last first -/
def stepGo (r : Bool) : Es → Es → Option Es
  | _, [] => none
  | pre, x :: t =>
    if x = [] ∨ x = [46] then some (pre.reverse ++ t)
    else if x = [46, 46] then
      match pre with
      | y :: p => if y = [46, 46] then stepGo r (x :: y :: p) t else some (p.reverse ++ t)
      | [] => if r then some t else stepGo r [x] t
    else stepGo r (x :: pre) t

def stepR (r : Bool) (L : Es) : Es × Bool := match stepGo r [] L with
  | some K => (K, true)
  | none => (L, false)

theorem stepGo_drop (r : Bool) (pre : Es) (x : Bs) (t : Es) (h : x = [] ∨ x = [46]) : stepGo r pre (x :: t) = some (pre.reverse ++ t) := by
  unfold stepGo; rw [if_pos h]
theorem stepGo_pop (r : Bool) (p : Es) (y : Bs) (t : Es) (hy : y ≠ [46, 46]) : stepGo r (y :: p) ([46, 46] :: t) = some (p.reverse ++ t) := by
  unfold stepGo; simp [hy]
theorem stepGo_root (t : Es) : stepGo true [] ([46, 46] :: t) = some t := by
  unfold stepGo; simp
theorem stepGo_on (r : Bool) (pre : Es) (x : Bs) (t : Es) (h0 : x ≠ []) (h1 : x ≠ [46]) (h2 : x = [46, 46] → (pre = [] ∧ r = false) ∨ ∃ p, pre = [46, 46] :: p) : stepGo r pre (x :: t) = stepGo r (x :: pre) t := by
  conv => lhs; unfold stepGo
  rw [if_neg (by simp [h0, h1])]
  by_cases hd : x = [46, 46]
  · rw [if_pos hd]
    rcases h2 hd with ⟨rfl, rfl⟩ | ⟨p, rfl⟩ <;> simp
  · rw [if_neg hd]

theorem stepGo_some {r : Bool} : ∀ {rest pre K : Es}, NF r pre → (∀ e ∈ rest, 47 ∉ e) → stepGo r pre rest = some K →
    K.foldl (cleanStep r) [] = rest.foldl (cleanStep r) pre ∧ K.length < pre.length + rest.length ∧ ∀ e ∈ K, e ∈ pre ∨ e ∈ rest
  | [], _, _, _, _, h => by simp [stepGo] at h
  | x :: t, pre, K, hn, h47, h => by
    have hpre : ∀ p : Es, NF r p → p.reverse.foldl (cleanStep r) [] = p := fun p hp => by
      rw [fold_nf' _ (by rw [List.reverse_reverse]; exact hp), List.reverse_reverse]
    by_cases h1 : x = [] ∨ x = [46]
    · rw [stepGo_drop r pre x t h1] at h
      injection h with h
      subst h
      refine ⟨?_, by simp, fun e he => ?_⟩
      · rw [List.foldl_append, hpre pre hn, List.foldl_cons]
        congr 1
        rcases h1 with rfl | rfl
        · rw [step_nil]
        · rw [step_dot]
      · rcases List.mem_append.1 he with he | he
        · exact .inl (List.mem_reverse.1 he)
        · exact .inr (List.mem_cons_of_mem _ he)
    · have g0 : x ≠ [] := fun e => h1 (.inl e)
      have g1 : x ≠ [46] := fun e => h1 (.inr e)
      have on : (x = [46, 46] → (pre = [] ∧ r = false) ∨ ∃ p, pre = [46, 46] :: p) → K.foldl (cleanStep r) [] = (x :: t).foldl (cleanStep r) pre ∧ K.length < pre.length + (x :: t).length ∧ ∀ e ∈ K, e ∈ pre ∨ e ∈ x :: t := by
        intro h2
        rw [stepGo_on r pre x t g0 g1 h2] at h
        have hnf : NF r (x :: pre) := ⟨⟨g0, g1, h47 x (by simp)⟩, fun e => h2 e, hn⟩
        obtain ⟨a1, a2, a3⟩ := stepGo_some hnf (fun e he => h47 e (List.mem_cons_of_mem _ he)) h
        refine ⟨?_, by simp at a2 ⊢; omega, fun e he => ?_⟩
        · rw [a1, List.foldl_cons, step_of_nf hnf]
        · rcases a3 e he with ha | ha
          · rcases List.mem_cons.1 ha with rfl | ha
            · exact .inr (by simp)
            · exact .inl ha
          · exact .inr (List.mem_cons_of_mem _ ha)
      by_cases hd : x = [46, 46]
      · cases pre with
        | nil =>
          cases r with
          | false => exact on fun _ => .inl ⟨rfl, rfl⟩
          | true =>
            subst hd
            rw [stepGo_root] at h
            injection h with h
            subst h
            exact ⟨by simp [cleanStep], by simp, fun e he => .inr (List.mem_cons_of_mem _ he)⟩
        | cons y p =>
          by_cases hy : y = [46, 46]
          · exact on fun _ => .inr ⟨p, by rw [hy]⟩
          · subst hd
            rw [stepGo_pop r p y t hy] at h
            injection h with h
            subst h
            refine ⟨?_, by simp; omega, fun e he => ?_⟩
            · rw [List.foldl_append, hpre p hn.2.2, List.foldl_cons]
              congr 1
              simp [cleanStep, hy]
            · rcases List.mem_append.1 he with he | he
              · exact .inl (List.mem_cons_of_mem _ (List.mem_reverse.1 he))
              · exact .inr (List.mem_cons_of_mem _ he)
      · exact on fun e => absurd e hd

theorem stepGo_none {r : Bool} : ∀ {rest pre : Es}, NF r pre → (∀ e ∈ rest, 47 ∉ e) → stepGo r pre rest = none → rest.foldl (cleanStep r) pre = rest.reverse ++ pre
  | [], _, _, _, _ => rfl
  | x :: t, pre, hn, h47, h => by
    by_cases h1 : x = [] ∨ x = [46]
    · rw [stepGo_drop r pre x t h1] at h; cases h
    · have g0 : x ≠ [] := fun e => h1 (.inl e)
      have g1 : x ≠ [46] := fun e => h1 (.inr e)
      have on : (x = [46, 46] → (pre = [] ∧ r = false) ∨ ∃ p, pre = [46, 46] :: p) → (x :: t).foldl (cleanStep r) pre = (x :: t).reverse ++ pre := by
        intro h2
        rw [stepGo_on r pre x t g0 g1 h2] at h
        have hnf : NF r (x :: pre) := ⟨⟨g0, g1, h47 x (by simp)⟩, fun e => h2 e, hn⟩
        have ih := stepGo_none hnf (fun e he => h47 e (List.mem_cons_of_mem _ he)) h
        rw [List.foldl_cons, step_of_nf hnf, ih]
        simp
      by_cases hd : x = [46, 46]
      · cases pre with
        | nil =>
          cases r with
          | false => exact on fun _ => .inl ⟨rfl, rfl⟩
          | true => subst hd; rw [stepGo_root] at h; cases h
        | cons y p =>
          by_cases hy : y = [46, 46]
          · exact on fun _ => .inr ⟨p, by rw [hy]⟩
          · subst hd; rw [stepGo_pop r p y t hy] at h; cases h
      · exact on fun e => absurd e hd

/-- what the rules lead to: the same elements; fewer, where a rule applied; all, where none did -/
theorem stepR_spec {r : Bool} {L : Es} (h47 : ∀ e ∈ L, 47 ∉ e) :
    (stepR r L).1.foldl (cleanStep r) [] = L.foldl (cleanStep r) [] ∧ (∀ e ∈ (stepR r L).1, 47 ∉ e) ∧ ((stepR r L).2 = true → (stepR r L).1.length < L.length) ∧ ((stepR r L).2 = false → (stepR r L).1 = L ∧ L.foldl (cleanStep r) [] = L.reverse) := by
  unfold stepR
  cases h : stepGo r [] L with
  | some K =>
    obtain ⟨a1, a2, a3⟩ := stepGo_some (r := r) (pre := []) trivial h47 h
    refine ⟨a1, fun e he => ?_, fun _ => by simpa using a2, fun hf => by cases hf⟩
    rcases a3 e he with ha | ha
    · cases ha
    · exact h47 e ha
  | none =>
    have a1 := stepGo_none (r := r) (pre := []) trivial h47 h
    exact ⟨rfl, h47, fun hf => (by cases hf), fun _ => ⟨rfl, by simpa using a1⟩⟩

/-- how many bytes the elements take, with a slash behind each -/
def wt (es : Es) : Nat := (es.map fun e => e.length + 1).sum
theorem wt_nil : wt [] = 0 := rfl
theorem wt_cons (e : Bs) (es : Es) : wt (e :: es) = e.length + 1 + wt es := by simp [wt]
theorem wt_app (a b : Es) : wt (a ++ b) = wt a + wt b := by simp [wt]
theorem wt_rev (a : Es) : wt a.reverse = wt a := by
  induction a with
  | nil => rfl
  | cons x a ih => rw [List.reverse_cons, wt_app, ih, wt_cons, wt_cons, wt_nil]; omega
theorem wt_J : ∀ (es : Es), es ≠ [] → (J es).length + 1 = wt es
  | [], h => absurd rfl h
  | [x], _ => by rw [J_single, wt_cons, wt_nil]
  | x :: y :: r, _ => by
    have ih := wt_J (y :: r) (by simp)
    rw [J_cons2, wt_cons, ← ih, List.length_append, List.length_cons]; omega
theorem J_le_wt (es : Es) : (J es).length ≤ wt es := by
  cases es with
  | nil => exact Nat.zero_le _
  | cons x r => have := wt_J (x :: r) (by simp); omega
theorem wt_els (l : Bs) : wt (els l) = l.length + 1 := by
  obtain ⟨e, r, h⟩ := els_ne l
  have := wt_J (els l) (by rw [h]; simp)
  rw [J_els] at this
  exact this.symm
theorem wt_step (r : Bool) (st : Es) (e : Bs) : wt (cleanStep r st e) ≤ wt st + (e.length + 1) := by
  unfold cleanStep
  by_cases h1 : e = [] ∨ e = [46]
  · rw [if_pos h1]; omega
  · rw [if_neg h1]
    by_cases h2 : e = [46, 46]
    · rw [if_pos h2]
      cases st with
      | nil => cases r <;> simp [wt]
      | cons x p =>
        by_cases h3 : x = [46, 46]
        · simp only [h3, if_true, wt_cons]; omega
        · simp only [h3, if_false, wt_cons]; omega
    · rw [if_neg h2, wt_cons]; omega
theorem wt_fold (r : Bool) : ∀ (es st : Es), wt (es.foldl (cleanStep r) st) ≤ wt st + wt es
  | [], st => by simp [wt]
  | e :: es, st => by
    have h1 := wt_fold r es (cleanStep r st e)
    have h2 := wt_step r st e
    rw [List.foldl_cons, wt_cons]; omega
theorem wt_E (r : Bool) (l : Bs) : wt (E r l) ≤ l.length + 1 := by
  unfold E
  have := wt_fold r (els l) []
  rw [wt_rev]; rw [wt_nil, wt_els] at this; omega
theorem J_E_le (r : Bool) (l : Bs) : (J (E r l)).length ≤ l.length := by
  by_cases h : E r l = []
  · rw [h]; exact Nat.zero_le _
  · have h1 := wt_J _ h
    have h2 := wt_E r l
    omega
theorem len_le_wt (es : Es) : es.length ≤ wt es := by
  induction es with
  | nil => exact Nat.zero_le _
  | cons x r ih => rw [wt_cons, List.length_cons]; omega
theorem els_len (l : Bs) : (els l).length ≤ l.length + 1 := by have := len_le_wt (els l); rw [wt_els] at this; exact this
theorem E_len (r : Bool) (l : Bs) : (E r l).length ≤ l.length + 1 := Nat.le_trans (len_le_wt _) (wt_E r l)

/-- FnCleanShorter -/
theorem clean_len {l : Bs} (h : l ≠ []) : (clean l).length ≤ l.length := by
  rw [clean_eq]
  unfold render
  cases hr : ro l with
  | true =>
    cases l with
    | nil => exact absurd rfl h
    | cons c t =>
      have hc : c = 47 := by simpa [ro] using hr
      subst hc
      have e : E true (47 :: t) = E true t := by
        unfold E; rw [els_slash, List.foldl_cons, step_nil]
      have := J_E_le true t
      simp only [if_true, List.length_cons]
      rw [e]; omega
  | false =>
    simp only [Bool.false_eq_true, if_false]
    by_cases he : E false l = []
    · rw [if_pos he]
      have := List.length_pos_iff.2 h
      simp only [List.length_singleton]; omega
    · rw [if_neg he]; exact J_E_le false l
theorem clean_len_le (l : Bs) : (clean l).length ≤ l.length + 1 := by
  by_cases h : l = []
  · subst h; decide
  · exact Nat.le_trans (clean_len h) (Nat.le_succ _)

end Go.Proofs.Ytodfjjkjkkpkhaa.M
