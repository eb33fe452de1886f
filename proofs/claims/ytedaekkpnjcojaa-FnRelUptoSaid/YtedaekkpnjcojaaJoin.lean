/-
  Contracts of impl.Join, impl.Clean and spec.Local; spec.Elements by cases.
-/
import Derived.Test.YtedaekkpnjcojaaSpec3
import Derived.Test.YtedaekkpnjcojaaRelLaw
import Derived.Test.YtedaekkpnjcojaaCleanC
import Derived.Room.Shelf.FJoin48
namespace Go.Proofs.Ytedaekkpnjcojaa
open Go.RowKit Go.Lib
open Go.Lib.Pa (clean isAbs split ext base dir els)

theorem join48 (bk o c : Nat) (xs : List ByteArray) (w : World) (hcells : ∀ (j : Nat) x, xs[j]? = some x → w.cell? ⟨bk, o + j, none⟩ = some (.string x)) (hbk : bk < w.heap.size) (hcap : xs.length ≤ c)
    (hN : xs.length ≤ 140737488355328) (hlen : Lib.lens (xs.map (·.data.toList)) + xs.length ≤ 281474976710656) :
    Calls Try.prog 33 #[.slice (some ⟨bk, o, none⟩) xs.length c] w fun e w' => e = .returned (.string ⟨(Pa.fjoin (xs.map (·.data.toList))).toArray⟩) ∧ Below w.heap.size w w' :=
  Any.filepath_Join_48 Try.laysPah38 bk o c xs w hcells hbk hcap hN hlen

theorem map_S_list (L : List (List UInt8)) : (L.map S).map (·.data.toList) = L := by
  rw [List.map_map]
  have : ((fun x : ByteArray => x.data.toList) ∘ S) = id := by funext x; rfl
  rw [this, List.map_id]

/-- filepath.Join of a row of the call's own -/
theorem join_own (v : Value) (L : List (List UInt8)) (base : Nat) (w : World) (hv : w.ownsRow base 9 1 v L.length (vals L)) (hnn : v ≠ .slice none 0 0) (hN : L.length ≤ 140737488355328) (hlen : Lib.lens L + L.length ≤ 281474976710656) :
    Calls Try.prog 33 #[v] w fun e w' => e = .returned (.string (S (Pa.join L))) ∧ Below w.heap.size w w' := by
  rcases hv.2 with ⟨h, _⟩ | ⟨g, cap, cur, rfl, _, hg, hn, _⟩
  · exact absurd h hnn
  · have hlt := (hv.lt g rfl).2
    have hc := hv.cells (g := g) rfl
    have h := join48 g 0 cap (L.map S) w (fun j x hx => by
      have h1 : (vals L)[j]? = some (.string x) := by
        rw [List.getElem?_map] at hx
        unfold vals
        rw [List.getElem?_map]
        cases e : L[j]? with
        | none => rw [e] at hx; cases hx
        | some y => rw [e] at hx; simp at hx; subst hx; rfl
      have h2 := hc j _ h1
      rw [Nat.zero_add]
      unfold Addr.add at h2
      by_cases h0 : j = 0
      · subst h0; simpa using h2
      · rw [if_neg h0] at h2; simpa using h2) hlt (by simpa using hn) (by simpa using hN) (by rw [map_S_list]; simpa using hlen)
    rw [map_S_list, Pa.fjoin_eq_join, List.length_map] at h
    exact h

set_option maxHeartbeats 400000 in
theorem impl_Join (v : Value) (L : List (List UInt8)) (r : ByteArray) (w : World) (hv : Rd w v L) (hN : L.length ≤ 1099511627776) (hlen : Lib.lens L + L.length ≤ 281474976710656) (hr : S (Pa.join L) = r) :
    Calls Try.prog 18 #[v] w fun e w' => e = .returned (.string r) ∧ Below w.heap.size w w' := by
  obtain ⟨i0, hi, hz0, hz1, hz2⟩ := info_parts str_info
  obtain ⟨A, c, rfl, hc, hrd⟩ := hv
  have hb0 : Below w.heap.size w (w.alloc (.cells #[] 9)) := (Below.refl _ _).alloc (Nat.le_refl _) _
  have hr1 : Reads (w.alloc (.cells #[] 9)) w.heap.size 1 A L.length (vals L) := hrd.below hb0
  have hown0 : (w.alloc (.cells #[] 9)).ownsRow w.heap.size 9 1 (.slice (some ⟨w.heap.size, 0, none⟩) 0 0) 0 [] :=
    ⟨rfl, .inr ⟨w.heap.size, 0, #[], rfl, Nat.le_refl _, heap_alloc_new w _, Nat.le_refl _, by decide, rfl, rfl⟩⟩
  have hs1 : w.heap.size ≤ (w.alloc (.cells #[] 9)).heap.size := hb0.size
  have k1 : 0 + L.length ≤ maxLen := by simp only [maxLen]; omega
  have k2 : (0 + L.length) * 16 ≤ 140737488355328 := by omega
  have K := Lib.hid (And.intro k1 k2)
  have HB := Lib.hid hb0
  have H1 := Lib.hid hr1
  have H0 := Lib.hid hown0
  have HS := Lib.hid hs1
  have HR := Lib.hid hr
  have HL := Lib.hid hlen
  obtain ⟨n, hn⟩ : ∃ n, n = L.length := ⟨_, rfl⟩
  rw [← hn] at H1 K hN ⊢
  have HN := Lib.hid hn
  clear hb0 hr1 hown0 hs1 k1 k2 hr hrd hc hlen hn
  go_enter Try.func18, Try.ntmps18
  go_wp2_with (at_builtin; refine wpList_append_any _ rfl (.tmp 3) (.tmp 4) 24 rfl w.heap.size 9 i0 _ 1 16 Try.underlying24 hi hz0 hz1 hz2 rfl (by decide) (.slice (some ⟨w.heap.size, 0, none⟩) 0 0) 0 [] rfl H0.out w.heap.size A n c (vals L) rfl H1.out (vals_one _) K.out.1 K.out.2 HS.out ?_)
  intro v1 w1 hown1 hg1 hat
  have hb1 : Below w.heap.size w w1 := HB.out.grown hg1 HS.out (by simp [Value.ownBlock])
  have hnn : v1 ≠ .slice none 0 0 := by
    rintro rfl
    rcases hat with h | h <;> simp [Value.ownBlock] at h
  have hown2 : w1.ownsRow w.heap.size 9 1 v1 L.length (vals L) := by
    have h := hown1
    rw [HN.out] at h
    exact h
  have HO := Lib.hid hown2
  have HB1 := Lib.hid hb1
  have HNN := Lib.hid hnn
  clear hown1 hown2 hg1 hat hb1 hnn
  go_wp2_with fail
  refine (join_own v1 L _ w1 HO.out HNN.out (by rw [← HN.out]; omega) HL.out).mono ?_
  rintro e w2 ⟨rfl, hb2⟩
  have HB2 := Lib.hid (below_trans HB1.out hb2)
  clear hb2
  rw [HR.out]
  go_wp2
  go_ret
  exact ⟨rfl, HB2.out⟩

/-- a slice of two texts, just made -/
theorem Rd_two (w : World) (a b : ByteArray) : Rd (w.alloc (.cells #[.string a, .string b] 9)) (.slice (some ⟨w.heap.size, 0, none⟩) 2 2) [a.data.toList, b.data.toList] := by
  have h : (w.alloc (.cells #[.string a, .string b] 9)).ownsRow w.heap.size 9 1 (.slice (some ⟨w.heap.size, 0, none⟩) 2 2) 2 (vals [a.data.toList, b.data.toList]) :=
    ⟨rfl, .inr ⟨w.heap.size, 2, #[.string a, .string b], rfl, Nat.le_refl _, heap_alloc_new w _, Nat.le_refl _, by decide, rfl, by
      unfold vals
      simp only [List.map_cons, List.map_nil, S_data]
      rfl⟩⟩
  exact Rd.of_own (L := [a.data.toList, b.data.toList]) h
theorem Rd_one (w : World) (a : ByteArray) : Rd (w.alloc (.cells #[.string a] 9)) (.slice (some ⟨w.heap.size, 0, none⟩) 1 1) [a.data.toList] := by
  have h : (w.alloc (.cells #[.string a] 9)).ownsRow w.heap.size 9 1 (.slice (some ⟨w.heap.size, 0, none⟩) 1 1) 1 (vals [a.data.toList]) :=
    ⟨rfl, .inr ⟨w.heap.size, 1, #[.string a], rfl, Nat.le_refl _, heap_alloc_new w _, Nat.le_refl _, by decide, rfl, by
      unfold vals
      simp only [List.map_cons, List.map_nil, S_data]
      rfl⟩⟩
  exact Rd.of_own (L := [a.data.toList]) h

/-- Elements, where there is none -/
theorem spec_Elements_nil (s : ByteArray) (w : World) (hs : s.size ≤ 549755813888) (h0 : M.E (M.ro s.data.toList) s.data.toList = []) :
    Calls Try.prog 16 #[.string s] w fun e w' => ∃ A c, e = .returned (.slice A 0 c) ∧ Below w.heap.size w w' :=
  (spec_Elements s w hs).mono fun e w' ⟨v, he, ⟨A, c, hv, _, _⟩, hb⟩ => ⟨A, c, by rw [he, hv, h0]; rfl, hb⟩
/-- Elements, where there are some -/
theorem spec_Elements_cons (s : ByteArray) (w : World) (n : Nat) (L : List (List UInt8)) (hs : s.size ≤ 549755813888) (hL : M.E (M.ro s.data.toList) s.data.toList = L) (hn : n = L.length) (h0 : 0 < n) :
    Calls Try.prog 16 #[.string s] w fun e w' => ∃ ad c, e = .returned (.slice (some ad) n c) ∧ n ≤ c ∧ Rd w' (.slice (some ad) n c) L ∧ (∀ j x, L[j]? = some x → w'.cell? (ad.add j) = some (.string (S x))) ∧ Below w.heap.size w w' := by
  subst hL
  subst hn
  refine (spec_Elements s w hs).mono ?_
  rintro e w' ⟨v, he, ⟨A, c, hv, hc, hr⟩, hb⟩
  obtain ⟨ad, rfl, hbl, hcell⟩ := hr.2 h0
  exact ⟨ad, c, by rw [he, hv], hc, ⟨some ad, c, rfl, hc, hr⟩, fun j x hx => hcell j _ (by unfold vals; rw [List.getElem?_map, hx]; rfl), hb⟩

/-- local: not empty, not rooted, not beginning with two dots when cleaned -/
def localB (l : List UInt8) : Bool := decide (l ≠ [] ∧ M.ro l = false ∧ (M.E false l).head? ≠ some [46, 46])

set_option maxHeartbeats 400000 in
theorem spec_Local (s : ByteArray) (b : Bool) (w : World) (hs : s.size ≤ 549755813888) (hb : localB s.data.toList = b) :
    Calls Try.prog 14 #[.string s] w fun e w' => e = .returned (.bool b) ∧ Below w.heap.size w w' := by
  by_cases h0 : 0 < s.size
  · have hE := isEmpty_of_pos h0
    have hne : s.data.toList ≠ [] := by
      intro e
      rw [Lib.size_eq, e] at h0
      simp at h0
    cases hr : M.ro s.data.toList with
    | true =>
      have hb2 : b = false := by rw [← hb]; unfold localB; simp [hr]
      subst hb2
      have HR := Lib.hid hr
      clear hb hr hne
      go_enter Try.func14, Try.ntmps14
      go_wp2_with fail
      refine (spec_Rooted_is s true _ (by omega) HR.out).mono ?_
      rintro e w' ⟨rfl, rfl⟩
      go_wp2
      go_ret
      exact ⟨rfl, Below.refl _ _⟩
    | false =>
      cases hL : M.E false s.data.toList with
      | nil =>
        have hb2 : b = true := by rw [← hb]; unfold localB; simp [hr, hL, hne]
        subst hb2
        have HEl := Lib.hid (fun W => spec_Elements_nil s W hs (by rw [hr, hL]))
        have HR := Lib.hid hr
        clear hb hr hne hL
        go_enter Try.func14, Try.ntmps14
        go_wp2_with fail
        refine (spec_Rooted_is s false _ (by omega) HR.out).mono ?_
        rintro e w' ⟨rfl, rfl⟩
        go_wp2_with fail
        refine (HEl.out _).mono ?_
        rintro e w1 ⟨A, c, rfl, hb1⟩
        have HB1 := Lib.hid hb1
        clear hb1
        go_wp2
        go_ret
        exact ⟨rfl, HB1.out⟩
      | cons x t =>
        have hbx : b = decide (x ≠ [46, 46]) := by rw [← hb]; unfold localB; simp [hr, hL, hne]
        have tx := t_is x [46, 46]
        have HEl := Lib.hid (fun W => spec_Elements_cons s W (t.length + 1) (x :: t) hs (by rw [hr, hL]) rfl (by omega))
        have HR := Lib.hid hr
        have hn0 : ((((t.length : Nat) : Int) + 1) == 0) = false := by simp; omega
        have hlen : t.length + 1 ≤ 549755813889 := by
          have := M.E_len false s.data.toList
          rw [hL, ← Lib.size_eq] at this
          simp at this
          omega
        obtain ⟨y, hy⟩ : ∃ y, y = S x := ⟨_, rfl⟩
        have HY := Lib.hid hy
        rw [← hy] at tx
        clear hb hr hne hL hy
        obtain ⟨n, hnn⟩ : ∃ n, n = t.length + 1 := ⟨_, rfl⟩
        have HEl2 := HEl.out
        rw [← hnn] at HEl2 hlen
        have HEl3 := Lib.hid HEl2
        have hn1 : ((n : Int) == 0) = false := by simp; omega
        have hn2 : 0 < n := by omega
        have hn3 : (0 : Int) < (n : Int) := by omega
        clear HEl HEl2 hn0 hnn
        by_cases hx2 : x = [46, 46]
        · have u1 : (y.toList == [46, 46]) = true := by rw [tx]; simp [hx2]
          have u2 : (y.toList != [46, 46]) = false := by unfold bne; rw [u1]; rfl
          have hb2 : b = false := by rw [hbx]; simp [hx2]
          subst hb2
          clear hbx tx hx2
          go_enter Try.func14, Try.ntmps14
          go_wp2_with fail
          refine (spec_Rooted_is s false _ (by omega) HR.out).mono ?_
          rintro e w' ⟨rfl, rfl⟩
          go_wp2_with fail
          refine (HEl3.out _).mono ?_
          rintro e w1 ⟨ad, c, rfl, hc, hRd, hcell, hb1⟩
          have hce : w1.cell? ad = some (.string y) := by rw [HY.out]; simpa [Addr.add] using hcell 0 x rfl
          have HB1 := Lib.hid hb1
          clear hb1 hRd hcell
          go_wp2
          go_ret
          exact ⟨rfl, HB1.out⟩
        · have u1 : (y.toList == [46, 46]) = false := by rw [tx]; simp [hx2]
          have u2 : (y.toList != [46, 46]) = true := by unfold bne; rw [u1]; rfl
          have hb2 : b = true := by rw [hbx]; simp [hx2]
          subst hb2
          clear hbx tx hx2
          go_enter Try.func14, Try.ntmps14
          go_wp2_with fail
          refine (spec_Rooted_is s false _ (by omega) HR.out).mono ?_
          rintro e w' ⟨rfl, rfl⟩
          go_wp2_with fail
          refine (HEl3.out _).mono ?_
          rintro e w1 ⟨ad, c, rfl, hc, hRd, hcell, hb1⟩
          have hce : w1.cell? ad = some (.string y) := by rw [HY.out]; simpa [Addr.add] using hcell 0 x rfl
          have HB1 := Lib.hid hb1
          clear hb1 hRd hcell
          go_wp2
          go_ret
          exact ⟨rfl, HB1.out⟩
  · have hE := isEmpty_of_size (s := s) (by omega)
    have hb2 : b = false := by rw [← hb, Pa.nil_of_size s h0]; rfl
    subst hb2
    clear hb
    go_enter Try.func14, Try.ntmps14
    go_wp2
    go_ret
    exact ⟨rfl, Below.refl _ _⟩

end Go.Proofs.Ytedaekkpnjcojaa
