/-
  Plain facts on joined paths. No program is named here.
-/
import Derived.Test.YtedaekkpnjcojaaRelLaw
namespace Go.Proofs.Ytedaekkpnjcojaa.M
open Go.Lib.Pa

theorem keeps_dd {s : Es} {e : Bs} (h : dd ∈ s) : dd ∈ cleanStep false s e := by
  unfold cleanStep
  by_cases h1 : e = [] ∨ e = [46]
  · rw [if_pos h1]; exact h
  · rw [if_neg h1]
    by_cases h2 : e = [46, 46]
    · rw [if_pos h2]
      cases s with
      | nil => cases h
      | cons x t =>
        by_cases h3 : x = [46, 46]
        · simp only [h3, if_true]; rw [h2]; simp
        · simp only [h3, if_false]
          rcases List.mem_cons.1 h with h | h
          · exact absurd h.symm h3
          · exact h
    · rw [if_neg h2]; exact List.mem_cons_of_mem _ h
theorem keeps_dds : ∀ (es : Es) {s : Es}, dd ∈ s → dd ∈ es.foldl (cleanStep false) s
  | [], _, h => h
  | _ :: es, _, h => keeps_dds es (keeps_dd h)
theorem fold_above (r : Bool) (st : Es) : ∀ (es s : Es), dd ∉ es.foldl (cleanStep false) s → es.foldl (cleanStep r) (s ++ st) = es.foldl (cleanStep false) s ++ st
  | [], _, _ => rfl
  | e :: es, s, h => by
    rw [List.foldl_cons] at h
    have hs : dd ∉ cleanStep false s e := fun h' => h (keeps_dds es h')
    have hstep : cleanStep r (s ++ st) e = cleanStep false s e ++ st := by
      unfold cleanStep at hs ⊢
      by_cases h1 : e = [] ∨ e = [46]
      · rw [if_pos h1, if_pos h1]
      · rw [if_neg h1] at hs ⊢
        rw [if_neg h1]
        by_cases h2 : e = [46, 46]
        · rw [if_pos h2] at hs ⊢
          rw [if_pos h2]
          cases s with
          | nil => exfalso; rw [h2] at hs; simp at hs
          | cons x t =>
            by_cases h3 : x = [46, 46]
            · exfalso; simp only [h3, if_true] at hs; rw [h2] at hs; simp at hs
            · simp only [List.cons_append, h3, if_false]
        · rw [if_neg h2, if_neg h2]; rfl
    rw [List.foldl_cons, hstep, List.foldl_cons]
    exact fold_above r st es _ h
/-- behind whatever stands there, a path that does not lead out adds its elements -/
theorem fold_local (r : Bool) (b : Bs) (st : Es) (h : (E false b).head? ≠ some dd) : (els b).foldl (cleanStep r) st = (E false b).reverse ++ st := by
  have hn := (std_E false b).names h
  have h2 : dd ∉ (els b).foldl (cleanStep false) [] := fun h' => hn dd (by unfold E; simpa using h') rfl
  have h3 := fold_above r st (els b) [] h2
  rw [List.nil_append] at h3
  rw [h3]
  unfold E
  rw [List.reverse_reverse]

theorem E_joined {a b : Bs} (ha : a ≠ []) (hb : (E false b).head? ≠ some dd) : E (ro a) (clean (a ++ 47 :: b)) = E (ro a) a ++ E false b := by
  have hro : ro (a ++ 47 :: b) = ro a := ro_app ha
  have h1 := E_clean (a ++ 47 :: b)
  rw [hro] at h1
  rw [h1]
  have h2 : E (ro a) (a ++ 47 :: b) = ((els b).foldl (cleanStep (ro a)) ((els a).foldl (cleanStep (ro a)) [])).reverse := by
    unfold E
    rw [els_app, List.foldl_append]
  rw [h2, fold_local _ _ _ hb, List.reverse_append, List.reverse_reverse]
  rfl
theorem ro_joined {a b : Bs} (ha : a ≠ []) : ro (clean (a ++ 47 :: b)) = ro a := by rw [ro_clean, ro_app ha]

theorem join_two (a b : Bs) (hb : b ≠ []) : join [a, b] = if a = [] then clean b else clean (a ++ 47 :: b) := by
  unfold join
  by_cases ha : a = []
  · subst ha
    simp [hb, List.intercalate]
  · simp [ha, hb, List.intercalate]

/-- from what was joined back to the base -/
theorem relOut_up (a m : Es) (hm : m.head? ≠ some dd) : relOut (a ++ m) a = some (clean (J (List.replicate m.length dd))) := by
  unfold relOut
  rw [(cut_app a m).2]
  rw [if_neg hm]
  simp
/-- from the base to what was joined -/
theorem relOut_down (a m : Es) : relOut a (a ++ m) = some (clean (J m)) := by
  unfold relOut
  rw [(cut_app a m).1]
  simp
theorem wt_dds : ∀ n, wt (List.replicate n dd) = 3 * n
  | 0 => rfl
  | n + 1 => by
    rw [List.replicate_succ, wt_cons, wt_dds n]
    show 2 + 1 + 3 * n = _
    omega

end Go.Proofs.Ytedaekkpnjcojaa.M
