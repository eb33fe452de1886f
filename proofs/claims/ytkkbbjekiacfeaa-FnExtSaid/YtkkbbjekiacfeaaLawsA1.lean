/-
  The walks of FnIsAbs, FnExt, FnExtForm, FnExtTrailed.
-/
import Derived.Test.YtkkbbjekiacfeaaSmall
import Derived.Test.YtkkbbjekiacfeaaParts
import Derived.Below
import Derived.WalkSmall
namespace Go.Proofs.Ytkkbbjekiacfeaa
open Go.RowKit Go.Lib
open Go.Lib.Pa (clean isAbs split ext base dir)

theorem law_FnIsAbs (s : ByteArray) (w : World) (hs : s.size ≤ 140737488351232) :
    Calls Try.prog 3 #[.string s] w fun e w' => e = .returned (.bool true) ∧ Below w.heap.size w w' := by
  go_enter Try.func3, Try.ntmps3
  go_wp2_with (first | (go_at_call 15; refine (impl_IsAbs _ _).mono ?_; rintro e w' ⟨rfl, rfl⟩) | (go_at_call 16; refine (spec_Rooted _ _ (by omega)).mono ?_; rintro e w' ⟨rfl, rfl⟩))
  go_ret
  exact ⟨by simp, Below.refl _ _⟩

theorem law_FnExtTrailed (s : ByteArray) (w : World) (hs : s.size ≤ 140737488351232) :
    Calls Try.prog 6 #[.string s] w fun e w' => e = .returned (.bool true) ∧ Below w.heap.size w w' := by
  go_enter Try.func6, Try.ntmps6
  go_wp2_with fail
  refine (impl_Ext _ ⟨#[]⟩ _ (by rw [app_size]; exact Nat.le_trans (Nat.add_le_add_right hs _) (by decide)) (by rw [app_list, M.ext_slash]; rfl)).mono ?_
  rintro e w' ⟨rfl, rfl⟩
  go_wp2_with fail
  refine (impl_Ext _ ⟨#[46, 98]⟩ _ (by decide) (by decide)).mono ?_
  rintro e w' ⟨rfl, rfl⟩
  go_wp2
  go_ret
  exact ⟨rfl, Below.refl _ _⟩

theorem law_FnExt (s : ByteArray) (w : World) (hs : s.size ≤ 140737488351232) :
    Calls Try.prog 4 #[.string s] w fun e w' => e = .returned (.bool true) ∧ Below w.heap.size w w' := by
  cases hb : trailed s.data.toList with
  | true =>
    have HB := Lib.hid hb
    clear hb
    go_enter Try.func4, Try.ntmps4
    go_wp2_with fail
    refine (spec_Trailed_is s true _ (by omega) HB.out).mono ?_
    rintro e w' ⟨rfl, rfl⟩
    go_wp2
    go_ret
    exact ⟨rfl, Below.refl _ _⟩
  | false =>
    have HB := Lib.hid hb
    clear hb
    obtain ⟨r, hr⟩ : ∃ r, S (ext s.data.toList) = r := ⟨_, rfl⟩
    have HR := Lib.hid hr
    clear hr
    go_enter Try.func4, Try.ntmps4
    go_wp2_with fail
    refine (spec_Trailed_is s false _ (by omega) HB.out).mono ?_
    rintro e w' ⟨rfl, rfl⟩
    go_wp2_with fail
    refine (impl_Ext s r _ (by omega) HR.out).mono ?_
    rintro e w' ⟨rfl, rfl⟩
    go_wp2_with fail
    refine (spec_Ext s r _ (by omega) HR.out).mono ?_
    rintro e w' ⟨rfl, n, rfl⟩
    go_wp2
    go_ret
    exact ⟨by simp, below_drewN (Below.refl _ _) n⟩

theorem ext_facts (s r : ByteArray) (hr : S (ext s.data.toList) = r) : r.size ≤ s.size ∧ s.extract (s.size - r.size) s.size = r ∧
    ∀ k (h : k < r.size), (((r[k]'h).toNat : Int) == 46) = decide (k = 0) ∧ (((r[k]'h).toNat : Int) == 47) = false := by
  rcases M.ext_cases s.data.toList with h | ⟨a, b, h, hl, h46, h47⟩ <;> (rw [h] at hr; subst hr)
  · refine ⟨Nat.zero_le _, ?_, fun k hk => absurd hk (by simp [S_size])⟩
    have e : s.size - (S []).size = s.data.toList.length := by rw [← Lib.size_eq, S_size]; rfl
    rw [Pa.extract_from, e, List.drop_length]; rfl
  · have hsz : s.size = a.length + (b.length + 1) := by rw [Lib.size_eq, hl]; simp
    have hrs : (S (46 :: b)).size = b.length + 1 := by rw [S_size]; simp
    refine ⟨by omega, ?_, ?_⟩
    · rw [Pa.extract_from, hrs, hsz, show a.length + (b.length + 1) - (b.length + 1) = a.length by omega, hl]
      simp [S]
    · intro k hk
      have e := Pa.at_eq _ k hk
      rw [S_toList] at e
      generalize (S (46 :: b))[k]'hk = x at e
      rw [Pa.beq46, Pa.beq47]
      cases k with
      | zero =>
        simp at e
        subst e
        decide
      | succ j =>
        rw [List.getElem?_cons_succ] at e
        have hm := List.mem_of_getElem? e
        constructor
        · simp; rintro rfl; exact h46 hm
        · simp; rintro rfl; exact h47 hm

set_option maxHeartbeats 400000 in
theorem law_FnExtForm (s : ByteArray) (w : World) (hs : s.size ≤ 140737488351232) :
    Calls Try.prog 5 #[.string s] w fun e w' => e = .returned (.bool true) ∧ Below w.heap.size w w' := by
  have hx : ∀ W, Calls Try.prog 18 #[.string (s ++ ⟨#[46, 120]⟩)] W fun e w' => e = .returned (.string ⟨#[46, 120]⟩) ∧ W = w' := fun W =>
    impl_Ext _ ⟨#[46, 120]⟩ W (by rw [app_size]; exact Nat.le_trans (Nat.add_le_add_right hs _) (by decide)) (by rw [app_list, M.ext_more]; rfl)
  have HX := Lib.hid hx
  clear hx
  cases hb : trailed s.data.toList with
  | true =>
    have HB := Lib.hid hb
    clear hb
    go_enter Try.func5, Try.ntmps5
    go_wp2_with fail
    refine (spec_Trailed_is s true _ (by omega) HB.out).mono ?_
    rintro e w' ⟨rfl, rfl⟩
    go_wp2_with fail
    refine (HX.out _).mono ?_
    rintro e w' ⟨rfl, rfl⟩
    go_wp2
    go_ret
    exact ⟨rfl, Below.refl _ _⟩
  | false =>
    have HB := Lib.hid hb
    clear hb
    obtain ⟨r, hr⟩ : ∃ r, S (ext s.data.toList) = r := ⟨_, rfl⟩
    obtain ⟨hle, hcut, hall⟩ := ext_facts s r hr
    have HR := Lib.hid hr
    have HA := Lib.hid hall
    clear hr hall
    have c1 : (0 : Int) ≤ (s.size : Int) - (r.size : Int) := by omega
    have c2 : (s.size : Int) - (r.size : Int) ≤ (s.size : Int) := by omega
    have c3 : decide (s.size < r.size) = false := by simp; omega
    go_enter Try.func5, Try.ntmps5
    go_wp2_with fail
    refine (spec_Trailed_is s false _ (by omega) HB.out).mono ?_
    rintro e w' ⟨rfl, rfl⟩
    go_wp2_with fail
    refine (impl_Ext s r _ (by omega) HR.out).mono ?_
    rintro e w' ⟨rfl, rfl⟩
    go_wp2_with fail
    go_loop [4] (fun i => ∃ k : Nat, k ≤ r.size ∧ i = .int .i64 k) (fun i => r.size - (RowKit.intOf i).toNat)
    case atStart => exact ⟨0, Nat.zero_le _, rfl⟩
    case round =>
      obtain ⟨k, hk, rfl⟩ := hrel
      by_cases hlt : k < r.size
      · obtain ⟨hA, hB⟩ := HA.out k hlt
        by_cases h0 : k = 0
        · have t1 : (((r[k]'hlt).toNat : Int) == 46) = true := by rw [hA]; simp [h0]
          have t2 : ((k : Int) == 0) = true := by simp [h0]
          clear hA h0
          go_wp2
          go_round
          case rel => exact ⟨k + 1, by omega, by go_num⟩
          case measure => simp [RowKit.intOf]; omega
        · have t1 : (((r[k]'hlt).toNat : Int) == 46) = false := by rw [hA]; simp [h0]
          have t2 : ((k : Int) == 0) = false := by simp [h0]
          clear hA h0
          go_wp2
          go_round
          case rel => exact ⟨k + 1, by omega, by go_num⟩
          case measure => simp [RowKit.intOf]; omega
      · go_wp2_with fail
        refine (HX.out _).mono ?_
        rintro e w' ⟨rfl, rfl⟩
        go_wp2
        go_ret
        exact ⟨rfl, Below.refl _ _⟩

end Go.Proofs.Ytkkbbjekiacfeaa
