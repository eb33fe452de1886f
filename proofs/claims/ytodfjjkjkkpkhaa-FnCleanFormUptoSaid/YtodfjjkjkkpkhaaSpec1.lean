/-
  Contracts of spec.Parts and spec.Joined.
-/
import Derived.Test.YtodfjjkjkkpkhaaWords
import Derived.LoopTactic
namespace Go.Proofs.Ytodfjjkjkkpkhaa
open Go.RowKit Go.Lib
open Go.Lib.Pa (clean isAbs split ext base dir els)

/-- what Parts has done behind k bytes: D is collected, the rest begins at b -/
def PartsAt (l : List UInt8) (k b : Nat) (D : List (List UInt8)) : Prop := b ≤ k ∧ els (l.take k) = D ++ [(l.take k).drop b] ∧ D.length ≤ k

theorem parts_zero (l : List UInt8) : PartsAt l 0 0 [] := ⟨Nat.le_refl _, by simp [els], Nat.le_refl _⟩
theorem parts_slash {l : List UInt8} {k b : Nat} {D : List (List UInt8)} (h : PartsAt l k b D) (hc : l[k]? = some 47) : PartsAt l (k + 1) (k + 1) (D ++ [(l.take k).drop b]) := by
  obtain ⟨h1, h2, h3⟩ := h
  have e : l.take (k + 1) = l.take k ++ [47] := by rw [List.take_add_one, hc]; rfl
  refine ⟨Nat.le_refl _, ?_, by simp; omega⟩
  rw [e, M.els_snoc_slash, h2]
  have hlt : k < l.length := (List.getElem?_eq_some_iff.1 hc).1
  have e2 : (l.take k ++ [47]).drop (k + 1) = [] := List.drop_eq_nil_of_le (by simp; omega)
  rw [e2]
theorem parts_on {l : List UInt8} {k b : Nat} {D : List (List UInt8)} {c : UInt8} (h : PartsAt l k b D) (hc : l[k]? = some c) (hn : c ≠ 47) : PartsAt l (k + 1) b D := by
  obtain ⟨h1, h2, h3⟩ := h
  have e : l.take (k + 1) = l.take k ++ [c] := by rw [List.take_add_one, hc]; rfl
  have hlt : k < l.length := (List.getElem?_eq_some_iff.1 hc).1
  refine ⟨by omega, ?_, by omega⟩
  rw [e, M.els_snoc hn _ _ _ h2, List.drop_append_of_le_length (by rw [List.length_take]; omega)]
theorem cut_eq (s : ByteArray) (b k : Nat) : s.extract b k = S ((s.data.toList.take k).drop b) := by
  rw [Lib.extract_eq, S, List.drop_take]
theorem parts_end {l : List UInt8} {b : Nat} {D : List (List UInt8)} (h : PartsAt l l.length b D) : D ++ [l.drop b] = els l := by
  obtain ⟨h1, h2, h3⟩ := h
  rw [List.take_length] at h2
  exact h2.symm

set_option maxHeartbeats 400000 in
theorem spec_Parts (s : ByteArray) (w : World) (hs : s.size ≤ 1099511627776) :
    Calls Try.prog 18 #[.string s] w fun e w' => ∃ v, e = .returned v ∧ w'.ownsRow w.heap.size 9 1 v (els s.data.toList).length (vals (els s.data.toList)) ∧ Below w.heap.size w w' := by
  obtain ⟨i0, hi, hz0, hz1, hz2⟩ := info_parts str_info
  go_enter Try.func18, Try.ntmps18
  go_wp2
  go_loopw [3, 4, 5] (fun v bg i wr => ∃ (k b : Nat) (D : List (List UInt8)), k ≤ s.size ∧ b ≤ k ∧ D.length ≤ k ∧ i = .int .i64 k ∧ bg = .int .i64 b ∧ Hid (PartsAt s.data.toList k b D) ∧
      wr.ownsRow w.heap.size 9 1 v D.length (vals D) ∧ Below w.heap.size w wr) (fun _ _ i _ => s.size - (RowKit.intOf i).toNat)
  case atStart =>
    exact ⟨0, 0, [], Nat.zero_le _, Nat.le_refl _, Nat.le_refl _, rfl, rfl, parts_zero _, ⟨rfl, .inr ⟨w.heap.size, 0, #[], rfl, Nat.le_refl _, heap_alloc_new w _, Nat.le_refl _, by decide, rfl, rfl⟩⟩, (Below.refl _ _).alloc (Nat.le_refl _) _⟩
  case round =>
    obtain ⟨k, b, D, hk, hbk, hDk, rfl, rfl, hP, hown, hnx⟩ := hrel
    have hwz := hnx.size
    by_cases hlt : k < s.size
    · by_cases hc : (((s[k]'hlt).toNat : Int) == 47) = true
      · have c1 : (b : Int) ≤ (k : Int) := by omega
        have c2 : (k : Int) ≤ (s.size : Int) := by omega
        go_wp2_with (at_builtin; refine wpList_append_own _ rfl _ _ 25 rfl w.heap.size 9 i0 (.string ⟨#[]⟩) 1 16 Try.underlying25 hi hz0 hz1 hz2 rfl (by decide) _ _ _ rfl (hown.alloc _) ⟨wr.heap.size, 0, none⟩ 1 1 [.string (s.extract b k)] rfl rfl ?c1 ?c2 ?c3 ?c4 ?c5 ?_)
        case c1 => exact cell_one_new _ _ _
        case c2 => intro u hu; simp at hu; subst hu; rfl
        case c3 => unfold maxLen; omega
        case c4 => omega
        case c5 => simp; omega
        · intro v' w1 hown' hgrow _
          have hP2 : PartsAt s.data.toList (k + 1) (k + 1) (D ++ [(s.data.toList.take k).drop b]) := parts_slash hP.out (by rw [Pa.at_eq s k hlt]; rw [Pa.beq47, beq_iff_eq] at hc; rw [hc])
          have e2 : vals D ++ [.string (s.extract b k)] = vals (D ++ [(s.data.toList.take k).drop b]) := by rw [vals_append, cut_eq]; rfl
          have hb2 : Below w.heap.size w w1 := (hnx.alloc hwz _).grown hgrow (by simp; omega) (fun g hg => (hown.lt g hg).1)
          rw [e2] at hown'
          have HO := Lib.hid hown'
          have HP := Lib.hid hP2
          have HB := Lib.hid hb2
          clear hown' hgrow hown e2 hP2 hP hb2 hnx
          go_wp2
          go_roundw
          case rel => exact ⟨k + 1, k + 1, D ++ [(s.data.toList.take k).drop b], by omega, by omega, by simp; omega, by go_num, by go_num, HP.out, by rw [List.length_append]; exact HO.out, HB.out⟩
          case measure => simp [RowKit.intOf]; omega
      · have hc' : (((s[k]'hlt).toNat : Int) == 47) = false := by simpa using hc
        have hP2 : PartsAt s.data.toList (k + 1) b D := parts_on hP.out (Pa.at_eq s k hlt) (by rw [Pa.beq47] at hc; simpa using hc)
        have HP := Lib.hid hP2
        clear hc hP2
        go_wp2
        go_roundw
        case rel => exact ⟨k + 1, b, D, by omega, by omega, by omega, by go_num, rfl, HP.out, hown, hnx⟩
        case measure => simp [RowKit.intOf]; omega
    · have hks : k = s.size := by omega
      have c1 : (b : Int) ≤ (s.size : Int) := by omega
      have HK := Lib.hid hks
      clear hks
      go_wp2_with (at_builtin; refine wpList_append_own _ rfl _ _ 25 rfl w.heap.size 9 i0 (.string ⟨#[]⟩) 1 16 Try.underlying25 hi hz0 hz1 hz2 rfl (by decide) _ _ _ rfl (hown.alloc _) ⟨wr.heap.size, 0, none⟩ 1 1 [.string (s.extract b s.size)] rfl rfl ?d1 ?d2 ?d3 ?d4 ?d5 ?_)
      case d1 => exact cell_one_new _ _ _
      case d2 => intro u hu; simp at hu; subst hu; rfl
      case d3 => unfold maxLen; omega
      case d4 => omega
      case d5 => simp; omega
      · intro v' w1 hown' hgrow _
        have hP2 := hP.out
        rw [HK.out, Lib.size_eq] at hP2
        have hE := parts_end hP2
        have e2 : vals D ++ [.string (s.extract b s.size)] = vals (els s.data.toList) := by
          rw [← hE, vals_append, cut_eq, Lib.size_eq, List.take_length]; rfl
        have e3 : D.length + 1 = (els s.data.toList).length := by rw [← hE]; simp
        have hb2 : Below w.heap.size w w1 := (hnx.alloc hwz _).grown hgrow (by simp; omega) (fun g hg => (hown.lt g hg).1)
        rw [e2, e3] at hown'
        have HO := Lib.hid hown'
        have HB := Lib.hid hb2
        clear hown' hgrow hown e2 e3 hE hP2 hP hb2 hnx
        go_wp2
        go_ret
        exact ⟨v', rfl, HO.out, HB.out⟩

theorem S_nil : S [] = ⟨#[]⟩ := rfl
theorem S_app (a b : List UInt8) : S a ++ S b = S (a ++ b) := by
  have h := app_list (S a) (S b)
  rw [S_toList, S_toList] at h
  rw [← h, S_data]
theorem joined_zero (L : List (List UInt8)) (x : List UInt8) (h : L[0]? = some x) : S (M.J (L.take 0)) ++ S x = S (M.J (L.take 1)) := by
  have e : L.take 1 = [x] := by rw [show (1 : Nat) = 0 + 1 from rfl, List.take_add_one, h]; rfl
  rw [e, M.J_single, S_app]; rfl
theorem joined_succ (L : List (List UInt8)) (x : List UInt8) (k : Nat) (hk : 0 < k) (h : L[k]? = some x) : S (M.J (L.take k)) ++ ⟨#[47]⟩ ++ S x = S (M.J (L.take (k + 1))) := by
  have hlt : k < L.length := (List.getElem?_eq_some_iff.1 h).1
  have e : L.take (k + 1) = L.take k ++ [x] := by rw [List.take_add_one, h]; rfl
  have h47 : (⟨#[47]⟩ : ByteArray) = S [47] := rfl
  rw [e, M.J_snoc x (by intro e0; have := congrArg List.length e0; rw [List.length_take] at this; simp at this; rcases this with h | h <;> simp_all), h47, S_app, S_app, List.append_assoc]
  rfl

set_option maxHeartbeats 400000 in
theorem spec_Joined (v : Value) (L : List (List UInt8)) (w : World) (hv : Rd w v L) (hn : L.length ≤ 4611686018427387904) (hJ : (M.J L).length ≤ 4611686018427387904) :
    Calls Try.prog 25 #[v] w fun e w' => e = .returned (.string (S (M.J L))) ∧ w = w' := by
  obtain ⟨A, c, rfl, hc, hr⟩ := hv
  by_cases h0 : 0 < L.length
  · obtain ⟨ad, rfl, _, hcell⟩ := hr.2 h0
    have HC := Lib.hid hcell
    clear hcell hr
    obtain ⟨n, hnL⟩ : ∃ n, n = L.length := ⟨_, rfl⟩
    rw [← hnL] at hn h0 hc ⊢
    have HN := Lib.hid hnL
    clear hnL
    obtain ⟨J0, hJ0⟩ : ∃ J0, J0 = S (M.J L) := ⟨_, rfl⟩
    rw [← hJ0]
    have HJ := Lib.hid hJ0
    clear hJ0
    go_enter Try.func25, Try.ntmps25
    go_wp2
    go_loop [3, 8] (fun s i => ∃ (k : Nat) (T : ByteArray), k ≤ n ∧ i = .int .i64 k ∧ s = .string T ∧ Hid (T = S (M.J (L.take k)))) (fun _ i => n - (RowKit.intOf i).toNat)
    case atStart => exact ⟨0, ⟨#[]⟩, Nat.zero_le _, rfl, rfl, by show _ = _; rfl⟩
    case round =>
      obtain ⟨k, T, hk, rfl, rfl, hT⟩ := hrel
      by_cases hlt : k < n
      · obtain ⟨x, hx⟩ : ∃ x, L[k]? = some x := ⟨L[k]'(by rw [← HN.out]; exact hlt), List.getElem?_eq_getElem _⟩
        have hce : w.cell? (ad.add k) = some (.string (S x)) := HC.out k _ (by simp [vals, hx])
        have HX := Lib.hid hx
        clear hx
        have hsz : (S (M.J (L.take (k + 1)))).size ≤ 4611686018427387904 := by rw [S_size]; exact Nat.le_trans (M.J_take_le L (k + 1)) hJ
        by_cases hk0 : k = 0
        · subst hk0
          have hce0 : w.cell? ad = some (.string (S x)) := by simpa [Addr.add] using hce
          clear hce
          have hz : T.size + (S x).size ≤ 4611686018427387904 := by
            rw [← app_size, hT.out, joined_zero L x HX.out]; exact hsz
          clear hsz
          go_wp2
          go_round
          case rel => exact ⟨1, T ++ S x, by omega, by go_num, rfl, by show _ = _; rw [hT.out]; exact joined_zero L x HX.out⟩
          case measure => simp [RowKit.intOf]; omega
        · have hkp : 0 < k := by omega
          have hz : T.size + 1 + (S x).size ≤ 4611686018427387904 := by
            have e := app_size (T ++ ⟨#[47]⟩) (S x)
            rw [app_size T] at e
            have e1 : (⟨#[47]⟩ : ByteArray).size = 1 := rfl
            rw [e1] at e
            rw [← e, hT.out, joined_succ L x k hkp HX.out]; exact hsz
          clear hsz
          go_wp2
          go_round
          case rel => exact ⟨k + 1, T ++ ⟨#[47]⟩ ++ S x, by omega, by go_num, rfl, by show _ = _; rw [hT.out]; exact joined_succ L x k hkp HX.out⟩
          case measure => simp [RowKit.intOf]; omega
      · have hkn : k = n := by omega
        have hfin : T = J0 := by rw [hT.out, HJ.out, hkn, HN.out, List.take_length]
        have HF := Lib.hid hfin
        clear hfin hkn
        go_wp2
        go_ret
        exact ⟨by rw [← HF.out]; rfl, rfl⟩
  · have hL : L = [] := List.eq_nil_of_length_eq_zero (by omega)
    subst hL
    go_enter Try.func25, Try.ntmps25
    go_wp2
    refine wp_loop_rounds 1 ?_
    rw [rounds_succ]
    go_wp2
    go_ret
    exact ⟨rfl, rfl⟩

end Go.Proofs.Ytodfjjkjkkpkhaa
