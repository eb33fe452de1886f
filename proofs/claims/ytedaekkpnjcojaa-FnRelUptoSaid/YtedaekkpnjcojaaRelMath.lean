/-
  Plain facts for filepath.Rel: what its loops leave of two cleaned paths. No program is named here.
-/
import Derived.Test.YtedaekkpnjcojaaMath
namespace Go.Proofs.Ytedaekkpnjcojaa.M
open Go.Lib.Pa

/-- the first element -/
def hd (b : Bs) : Bs := b.takeWhile (· != 47)
/-- what stands behind the first slash -/
def tlS (b : Bs) : Bs := b.drop ((hd b).length + 1)
/-- first elements that are the same are left away, one by one -/
def strip : Nat → Bs → Bs → Option (Bs × Bs)
  | 0, _, _ => none
  | n + 1, b, t => if hd b = hd t then strip n (tlS b) (tlS t) else some (b, t)

theorem strip_nil : ∀ n, strip n [] [] = none
  | 0 => rfl
  | n + 1 => by unfold strip; rw [if_pos rfl]; exact strip_nil n
theorem strip_eq {n : Nat} {b t : Bs} {R : Bs × Bs} (h : strip n b t = some R) (he : hd b = hd t) : ∃ m, strip m (tlS b) (tlS t) = some R := by
  cases n with
  | zero => cases h
  | succ n => unfold strip at h; rw [if_pos he] at h; exact ⟨n, h⟩
theorem strip_ne {n : Nat} {b t : Bs} {R : Bs × Bs} (h : strip n b t = some R) (he : hd b ≠ hd t) : R = (b, t) := by
  cases n with
  | zero => cases h
  | succ n => unfold strip at h; rw [if_neg he] at h; injection h with h; exact h.symm

theorem hd_len (b : Bs) : (hd b).length ≤ b.length := (List.takeWhile_sublist _).length_le
theorem hd_take (b : Bs) : b.take (hd b).length = hd b := by
  unfold hd
  have h := List.takeWhile_append_dropWhile (p := (· != (47 : UInt8))) (l := b)
  generalize b.takeWhile (· != 47) = x at h
  rw [← h, List.take_append_of_le_length (Nat.le_refl _), List.take_length]
theorem hd_at {b : Bs} {k : Nat} (h : k < (hd b).length) : ∃ x, b[k]? = some x ∧ x ≠ 47 := by
  have hl := hd_len b
  have e : (hd b)[k]? = b[k]? := by rw [← hd_take b, List.getElem?_take, if_pos h]
  have e2 : (hd b)[k]? = some ((hd b)[k]) := List.getElem?_eq_getElem h
  refine ⟨(hd b)[k], by rw [← e, e2], ?_⟩
  have hm : (hd b)[k] ∈ b.takeWhile (· != 47) := List.getElem_mem h
  have := tw_no47 b
  intro e3
  rw [e3] at hm
  exact this hm
theorem hd_stop (b : Bs) : (hd b).length = b.length ∨ b[(hd b).length]? = some 47 := by
  rcases dw_head b with h | h
  · left
    rw [← drop_len_tw] at h
    have := List.drop_eq_nil_iff.1 h
    have h2 := hd_len b
    unfold hd at h2 ⊢
    omega
  · right
    rw [← drop_len_tw, List.head?_drop] at h
    exact h
theorem hd_nil : hd [] = [] := rfl
theorem tlS_nil : tlS [] = [] := rfl
theorem hd_cons (x : Bs) : hd (47 :: x) = [] := rfl
theorem tlS_cons (x : Bs) : tlS (47 :: x) = x := rfl

theorem hd_free {e : Bs} (h : 47 ∉ e) (r : Bs) : hd (e ++ 47 :: r) = e := by
  unfold hd
  rw [List.takeWhile_append_of_pos (by intro x hx; simp; rintro rfl; exact h hx)]
  simp
theorem hd_free' : ∀ {e : Bs}, 47 ∉ e → hd e = e
  | [], _ => rfl
  | x :: t, h => by
    have ih := hd_free' (e := t) fun h' => h (List.mem_cons_of_mem _ h')
    unfold hd at ih ⊢
    rw [List.takeWhile_cons_of_pos (by simp; rintro rfl; exact h (by simp)), ih]
theorem hd_J {e : Bs} (es : Es) (h : 47 ∉ e) : hd (J (e :: es)) = e := by
  cases es with
  | nil => rw [J_single]; exact hd_free' h
  | cons y r => rw [J_cons2]; exact hd_free h _
theorem tlS_J {e : Bs} (es : Es) (h : 47 ∉ e) : tlS (J (e :: es)) = J es := by
  unfold tlS
  rw [hd_J es h]
  cases es with
  | nil => rw [J_single, List.drop_eq_nil_of_le (by omega)]; rfl
  | cons y r =>
    rw [J_cons2, List.drop_append, List.drop_eq_nil_of_le (by omega), List.nil_append, show e.length + 1 - e.length = 1 by omega]
    rfl

theorem strip_C : ∀ (C X Y : Es), (∀ e ∈ C, 47 ∉ e) → hd (J X) ≠ hd (J Y) → strip (C.length + 1) (J (C ++ X)) (J (C ++ Y)) = some (J X, J Y)
  | [], X, Y, _, h => by
    show strip 1 (J X) (J Y) = _
    unfold strip
    rw [if_neg h]
  | c :: C, X, Y, h47, h => by
    have hc : 47 ∉ c := h47 c (by simp)
    have ih := strip_C C X Y (fun e he => h47 e (List.mem_cons_of_mem _ he)) h
    show strip (C.length + 1 + 1) (J (c :: (C ++ X))) (J (c :: (C ++ Y))) = _
    unfold strip
    rw [hd_J _ hc, hd_J _ hc, if_pos rfl, tlS_J _ hc, tlS_J _ hc]
    exact ih

/-- two dots, n times more with a slash before them -/
def dots : Nat → Bs
  | 0 => [46, 46]
  | n + 1 => dots n ++ [47, 46, 46]
theorem dots_len : ∀ n, (dots n).length = 2 + 3 * n
  | 0 => rfl
  | n + 1 => by rw [dots, List.length_append, dots_len n]; simp; omega
theorem dots_J : ∀ n, dots n = J (List.replicate (n + 1) [46, 46])
  | 0 => rfl
  | n + 1 => by
    rw [dots, dots_J n, List.replicate_succ' (n := n + 1), J_snoc _ (by simp)]
/-- the dots, and behind them the rest, if there is one -/
def upPath (n : Nat) (Y : Bs) : Bs := dots n ++ (if Y = [] then [] else 47 :: Y)

theorem count_J : ∀ (es : Es), (∀ e ∈ es, 47 ∉ e) → (J es).count 47 = es.length - 1
  | [], _ => rfl
  | [x], h => by rw [J_single]; simpa using List.count_eq_zero.2 (h x (by simp))
  | x :: y :: r, h => by
    have ih := count_J (y :: r) fun e he => h e (List.mem_cons_of_mem _ he)
    rw [J_cons2, List.count_append, List.count_eq_zero.2 (h x (by simp)), List.count_cons_self, ih]
    simp
theorem upPath_J (n : Nat) (Y : Es) (h : ∀ e ∈ Y, e ≠ []) : upPath n (J Y) = J (List.replicate (n + 1) [46, 46] ++ Y) := by
  unfold upPath
  by_cases hY : Y = []
  · subst hY; rw [if_pos J_nil, List.append_nil, List.append_nil, dots_J]
  · rw [if_neg (fun e => hY ((J_eq_nil h).1 e)), J_app _ _ (by simp) hY, dots_J]

end Go.Proofs.Ytedaekkpnjcojaa.M
