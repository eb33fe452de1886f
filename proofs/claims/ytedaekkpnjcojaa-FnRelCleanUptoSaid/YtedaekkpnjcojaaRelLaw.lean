/-
  Plain facts on relative paths, by the elements of two cleaned paths. No program is named here.
-/
import Derived.Test.YtedaekkpnjcojaaRelMath
namespace Go.Proofs.Ytedaekkpnjcojaa.M
open Go.Lib.Pa

abbrev dd : Bs := [46, 46]

/-- the first elements that are the same left away -/
def cut : Es → Es → Es × Es
  | x :: a, y :: b => if x = y then cut a b else (x :: a, y :: b)
  | [], b => ([], b)
  | a, [] => (a, [])

theorem cut_spec : ∀ (a b : Es), ∃ C, a = C ++ (cut a b).1 ∧ b = C ++ (cut a b).2 ∧ ((cut a b).1 = [] ∧ (cut a b).2 = [] ∨ (cut a b).1.head? ≠ (cut a b).2.head?)
  | [], b => by
    refine ⟨[], rfl, by cases b <;> rfl, ?_⟩
    cases b with
    | nil => exact .inl ⟨rfl, rfl⟩
    | cons y b => exact .inr (by simp [cut])
  | x :: a, [] => ⟨[], rfl, rfl, .inr (by simp [cut])⟩
  | x :: a, y :: b => by
    by_cases h : x = y
    · subst h
      obtain ⟨C, h1, h2, h3⟩ := cut_spec a b
      have e : cut (x :: a) (x :: b) = cut a b := by rw [cut, if_pos rfl]
      rw [e]
      exact ⟨x :: C, by rw [List.cons_append, ← h1], by rw [List.cons_append, ← h2], h3⟩
    · have e : cut (x :: a) (y :: b) = (x :: a, y :: b) := by rw [cut, if_neg h]
      rw [e]
      exact ⟨[], rfl, rfl, .inr (by simpa using h)⟩
theorem cut_app : ∀ (C b : Es), cut C (C ++ b) = ([], b) ∧ cut (C ++ b) C = (b, [])
  | [], b => ⟨by cases b <;> rfl, by cases b <;> rfl⟩
  | x :: C, b => by
    obtain ⟨h1, h2⟩ := cut_app C b
    constructor
    · rw [List.cons_append, cut, if_pos rfl, h1]
    · rw [List.cons_append, cut, if_pos rfl, h2]
theorem cut_self (C : Es) : cut C C = ([], []) := by
  have := (cut_app C []).1
  rwa [List.append_nil] at this

/-- a stack without rules to apply: names above two dots -/
theorem nf_form {r : Bool} : ∀ {st : Es}, NF r st → ∃ N k, st = N ++ List.replicate k dd ∧ (∀ e ∈ N, e ≠ dd) ∧ (r = true → k = 0)
  | [], _ => ⟨[], 0, rfl, by simp, fun _ => rfl⟩
  | x :: st, h => by
    obtain ⟨N, k, e, h1, h2⟩ := nf_form h.2.2
    by_cases hx : x = dd
    · rcases h.2.1 hx with ⟨h0, hr⟩ | ⟨t, ht⟩
      · subst hx
        subst h0
        have hk : k = 0 := by
          have := congrArg List.length e
          simp at this; omega
        exact ⟨[], 1, rfl, by simp, fun h' => by rw [hr] at h'; cases h'⟩
      · have hN : N = [] := by
          cases N with
          | nil => rfl
          | cons y N =>
            rw [ht, List.cons_append] at e
            injection e with e1 _
            exact absurd e1.symm (h1 y (by simp))
        subst hN
        refine ⟨[], k + 1, by rw [hx, e]; rfl, by simp, fun h' => ?_⟩
        have := h2 h'
        rw [e, this] at ht
        cases ht
    · exact ⟨x :: N, k, by rw [e]; rfl, fun y hy => by
        rcases List.mem_cons.1 hy with rfl | hy
        · exact hx
        · exact h1 y hy, h2⟩

theorem nf_dds : ∀ k, NF false (List.replicate k dd)
  | 0 => trivial
  | k + 1 => by
    refine ⟨⟨by decide, by decide, by decide⟩, fun _ => ?_, nf_dds k⟩
    cases k with
    | zero => exact .inl ⟨rfl, rfl⟩
    | succ k => exact .inr ⟨List.replicate k dd, rfl⟩
theorem nf_mk : ∀ (N : Es) (k : Nat), (∀ e ∈ N, Ok e ∧ e ≠ dd) → NF false (N ++ List.replicate k dd)
  | [], k, _ => nf_dds k
  | x :: N, k, h => ⟨(h x (by simp)).1, fun e => absurd e (h x (by simp)).2, nf_mk N k fun e he => h e (List.mem_cons_of_mem _ he)⟩

/-- elements that stay as they are: two dots at the beginning alone -/
def Std (L : Es) : Prop := ∃ k N, L = List.replicate k dd ++ N ∧ ∀ e ∈ N, Ok e ∧ e ≠ dd

theorem std_E (r : Bool) (l : Bs) : Std (E r l) := by
  have h := nf_E r l
  obtain ⟨N, k, e, h1, _⟩ := nf_form h
  refine ⟨k, N.reverse, ?_, fun x hx => ?_⟩
  · have := congrArg List.reverse e
    rw [List.reverse_reverse, List.reverse_append, List.reverse_replicate] at this
    exact this
  · have hx' : x ∈ N := by simpa using hx
    exact ⟨h.ok x (by rw [e]; exact List.mem_append_left _ hx'), h1 x hx'⟩
theorem Std.nf {L : Es} (h : Std L) : NF false L.reverse := by
  obtain ⟨k, N, rfl, hN⟩ := h
  rw [List.reverse_append, List.reverse_replicate]
  exact nf_mk _ k fun e he => hN e (by simpa using he)
theorem Std.up {L : Es} (h : Std L) (n : Nat) : Std (List.replicate n dd ++ L) := by
  obtain ⟨k, N, rfl, hN⟩ := h
  exact ⟨n + k, N, by rw [← List.append_assoc, List.replicate_append_replicate], hN⟩
theorem Std.suffix {C X : Es} (h : Std (C ++ X)) : Std X := by
  obtain ⟨k, N, e, hN⟩ := h
  have e2 : X = (List.replicate k dd ++ N).drop C.length := by rw [← e]; simp
  rw [List.drop_append, List.drop_replicate] at e2
  exact ⟨_, _, e2, fun x hx => hN x (List.mem_of_mem_drop hx)⟩
theorem Std.ok {L : Es} (h : Std L) : ∀ e ∈ L, Ok e := fun e he => h.nf.ok e (by simpa using he)
theorem Std.names {L : Es} (h : Std L) (hh : L.head? ≠ some dd) : ∀ e ∈ L, e ≠ dd := by
  obtain ⟨k, N, rfl, hN⟩ := h
  cases k with
  | zero => intro e he; exact (hN e (by simpa using he)).2
  | succ k => exact absurd rfl hh

/-- the relative path, if there is one -/
def relOut (a b : Es) : Option Bs := if (cut a b).1.head? = some dd then none else some (clean (J (List.replicate (cut a b).1.length dd ++ (cut a b).2)))

theorem clean_J {L : Es} (h : Std L) : clean (J L) = render false L := by
  by_cases h0 : L = []
  · subst h0; rfl
  · have e : render false L = J L := by unfold render; simp [h0]
    rw [← e, clean_eq (render false L), ro_render h.nf, E_render h.nf]
theorem ro_J {L : Es} (h : Std L) : ro (J L) = false := by
  by_cases h0 : L = []
  · subst h0; rfl
  · have e : render false L = J L := by unfold render; simp [h0]
    rw [← e, ro_render h.nf]

theorem hd_J_ne {X Y : Es} (hX : ∀ e ∈ X, Ok e) (hY : ∀ e ∈ Y, Ok e) (h : X.head? ≠ Y.head?) : hd (J X) ≠ hd (J Y) := by
  cases X with
  | nil =>
    cases Y with
    | nil => exact absurd rfl h
    | cons y Y =>
      rw [hd_J _ (hY y (by simp)).2.2]
      exact fun e => (hY y (by simp)).1 e.symm
  | cons x X =>
    cases Y with
    | nil =>
      rw [hd_J _ (hX x (by simp)).2.2]
      exact fun e => (hX x (by simp)).1 e
    | cons y Y =>
      rw [hd_J _ (hX x (by simp)).2.2, hd_J _ (hY y (by simp)).2.2]
      exact fun e => h (by rw [e]; rfl)

theorem render_false {L : Es} (h : L ≠ []) : render false L = J L := by unfold render; simp [h]
theorem render_true (L : Es) : render true L = 47 :: J L := rfl

/-- what the loops of Rel leave of two cleaned paths -/
theorem strip_render (r : Bool) {a b : Es} (ha : ∀ e ∈ a, Ok e) (hb : ∀ e ∈ b, Ok e) (hne : a ≠ b) (ha0 : r = false → a ≠ []) (hb0 : r = false → b ≠ []) :
    ∃ N, strip N (render r a) (render r b) = some (J (cut a b).1, J (cut a b).2) := by
  obtain ⟨C, h1, h2, h3⟩ := cut_spec a b
  have hX : ∀ e ∈ (cut a b).1, Ok e := fun e he => ha e (by rw [h1]; exact List.mem_append_right _ he)
  have hY : ∀ e ∈ (cut a b).2, Ok e := fun e he => hb e (by rw [h2]; exact List.mem_append_right _ he)
  have hC : ∀ e ∈ C, 47 ∉ e := fun e he => (ha e (by rw [h1]; exact List.mem_append_left _ he)).2.2
  have hhd : (cut a b).1.head? ≠ (cut a b).2.head? := by
    rcases h3 with ⟨e1, e2⟩ | h3
    · exfalso
      rw [e1] at h1
      rw [e2] at h2
      exact hne (h1.trans h2.symm)
    · exact h3
  have key := strip_C C _ _ hC (hd_J_ne hX hY hhd)
  rw [← h1, ← h2] at key
  cases r with
  | false => exact ⟨C.length + 1, by rw [render_false (ha0 rfl), render_false (hb0 rfl)]; exact key⟩
  | true =>
    refine ⟨C.length + 1 + 1, ?_⟩
    rw [render_true, render_true]
    show (if hd (47 :: J a) = hd (47 :: J b) then strip (C.length + 1) (tlS (47 :: J a)) (tlS (47 :: J b)) else some (47 :: J a, 47 :: J b)) = _
    rw [hd_cons, hd_cons, if_pos rfl, tlS_cons, tlS_cons]
    exact key

/-- the fold over two dots takes away as many names -/
theorem fold_pops (r : Bool) (st : Es) : ∀ (X : Es), (∀ e ∈ X, e ≠ dd) → (List.replicate X.length dd).foldl (cleanStep r) (X ++ st) = st
  | [], _ => rfl
  | x :: X, h => by
    rw [List.length_cons, List.replicate_succ, List.foldl_cons]
    have hx := h x (by simp)
    have e : cleanStep r (x :: X ++ st) dd = X ++ st := by simp [cleanStep, hx]
    rw [e]
    exact fold_pops r st X fun y hy => h y (List.mem_cons_of_mem _ hy)

/-- FnRelBack: the base with the relative path behind it leads to the target -/
theorem rel_back {r : Bool} {a b : Es} {s z : Bs} (ha : Std a) (hb : NF r b.reverse) (hs : s ≠ []) (hr : ro s = r) (hE : E r s = a) (hz : relOut a b = some z) :
    clean (s ++ 47 :: z) = render r b ∧ z ≠ [] ∧ ro z = false := by
  unfold relOut at hz
  by_cases hd1 : (cut a b).1.head? = some dd
  · rw [if_pos hd1] at hz; cases hz
  · rw [if_neg hd1] at hz
    injection hz with hz
    obtain ⟨C, h1, h2, h3⟩ := cut_spec a b
    have hX : Std (cut a b).1 := by rw [h1] at ha; exact ha.suffix
    have hXn := hX.names hd1
    have hbs : Std b := by
      obtain ⟨N, k, e, n1, _⟩ := nf_form hb
      refine ⟨k, N.reverse, ?_, fun x hx => ?_⟩
      · have := congrArg List.reverse e
        rw [List.reverse_reverse, List.reverse_append, List.reverse_replicate] at this
        exact this
      · have hx' : x ∈ N := by simpa using hx
        exact ⟨hb.ok x (by rw [e]; exact List.mem_append_left _ hx'), n1 x hx'⟩
    have hY : Std (cut a b).2 := by rw [h2] at hbs; exact hbs.suffix
    have hU := hY.up (cut a b).1.length
    rw [clean_J hU] at hz
    generalize (cut a b).1 = X at *
    generalize (cut a b).2 = Y at *
    have hze : z ≠ [] := by rw [← hz]; exact render_ne hU.nf
    refine ⟨?_, hze, by rw [← hz]; exact ro_render hU.nf⟩
    have h4 : ro (s ++ 47 :: z) = r := by rw [ro_app hs, hr]
    have hfold : (els z).foldl (cleanStep r) a.reverse = b.reverse := by
      have hels : (els z).foldl (cleanStep r) a.reverse = (List.replicate X.length dd ++ Y).foldl (cleanStep r) a.reverse := by
        rw [← hz]
        by_cases h0 : List.replicate X.length dd ++ Y = []
        · rw [h0]
          show (els [46]).foldl (cleanStep r) _ = _
          rw [els_free (e := [46]) (by decide)]
          simp [step_dot]
        · rw [render_false h0, els_Jf h0 fun e he => (hU.ok e he).2.2]
      rw [hels, List.foldl_append, h1, List.reverse_append]
      have hp := fold_pops r C.reverse X.reverse (fun e he => hXn e (by simpa using he))
      rw [List.length_reverse] at hp
      rw [hp, fold_nf Y C.reverse (by rw [← List.reverse_append, ← h2]; exact hb), ← List.reverse_append, ← h2]
    rw [clean_eq, h4]
    unfold E
    rw [els_app, List.foldl_append]
    have hE' : (els s).foldl (cleanStep r) [] = a.reverse := by
      rw [← hE]; unfold E; rw [List.reverse_reverse]
    rw [hE', hfold, List.reverse_reverse]

end Go.Proofs.Ytedaekkpnjcojaa.M
