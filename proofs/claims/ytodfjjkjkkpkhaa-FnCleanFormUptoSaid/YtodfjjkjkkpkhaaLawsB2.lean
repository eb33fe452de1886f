/-
  The walks of FnCleanInside, FnClean, FnBaseTail, FnDir, FnDirTrailed, FnDirEnd.
-/
import Derived.Test.YtodfjjkjkkpkhaaLawsB1
import Derived.Test.YtodfjjkjkkpkhaaSpec3
import Derived.Test.YtodfjjkjkkpkhaaSmall
import Derived.Test.YtodfjjkjkkpkhaaBaseC
namespace Go.Proofs.Ytodfjjkjkkpkhaa
open Go.RowKit Go.Lib
open Go.Lib.Pa (clean isAbs split ext base dir)

theorem none47 (f : ByteArray) (h : 47 ∉ f.data.toList) (k : Nat) (hk : k < f.size) : (((f[k]'hk).toNat : Int) == 47) = false := by
  rw [Pa.beq47]
  simp only [beq_eq_false_iff_ne, ne_eq]
  intro e
  have := Pa.at_eq f k hk
  rw [e] at this
  exact h (List.mem_of_getElem? this)
/-- the first slash of a text, if there is one -/
theorem first_slash (f : ByteArray) : (47 ∉ f.data.toList) ∨ ∃ (j : Nat) (h : j < f.size), (((f[j]'h).toNat : Int) == 47) = true ∧ ∀ k (hk : k < f.size), k < j → (((f[k]'hk).toNat : Int) == 47) = false := by
  by_cases h : 47 ∈ f.data.toList
  · right
    have h1 := List.findIdx_lt_length_of_exists (p := (· == (47 : UInt8))) (xs := f.data.toList) ⟨47, h, rfl⟩
    have hsz := Lib.size_eq f
    refine ⟨f.data.toList.findIdx (· == (47 : UInt8)), by omega, ?_, ?_⟩
    · rw [Pa.beq47]
      have := List.findIdx_getElem (p := (· == (47 : UInt8))) (w := h1)
      have e := Pa.at_eq f (f.data.toList.findIdx (· == (47 : UInt8))) (by omega)
      rw [List.getElem?_eq_getElem h1] at e
      have e' := Option.some.inj e
      rw [← e']; exact this
    · intro k hk hkj
      rw [Pa.beq47]
      have := List.not_of_lt_findIdx hkj
      have e := Pa.at_eq f k hk
      rw [List.getElem?_eq_getElem (by omega)] at e
      have e' := Option.some.inj e
      rw [← e']
      simpa using this
  · exact .inl h

theorem sl3_list (a b : ByteArray) : (a ++ ⟨#[47, 46, 47]⟩ ++ b).data.toList = a.data.toList ++ 47 :: 46 :: 47 :: b.data.toList := by
  rw [app_list, app_list, List.append_assoc]; rfl
theorem sl2_list (a b : ByteArray) : (a ++ ⟨#[47, 47]⟩ ++ b).data.toList = a.data.toList ++ 47 :: 47 :: b.data.toList := by
  rw [app_list, app_list, List.append_assoc]; rfl
theorem slx_list (a x b : ByteArray) : (a ++ ⟨#[47]⟩ ++ x ++ ⟨#[47, 46, 46, 47]⟩ ++ b).data.toList = a.data.toList ++ 47 :: (x.data.toList ++ 47 :: 46 :: 46 :: 47 :: b.data.toList) := by
  rw [app_list, app_list, app_list, app_list]
  simp

set_option maxHeartbeats 800000 in
theorem law_FnCleanInside (a x b : ByteArray) (w : World) (hz : a.size + x.size + b.size ≤ 1048576) : Calls Try.prog 7 #[.string a, .string x, .string b] w fun e w' => e = .returned (.bool true) ∧ Below w.heap.size w w' := by
  rcases first_slash x with h47 | ⟨j, hj, hj1, hj2⟩
  · have H4 := Lib.hid (none47 x h47)
    have t0 : x.toList.isEmpty = decide (x.data.toList = []) := by rw [Lib.toList_data]; cases x.data.toList <;> simp
    have t1 := is_of x [46]
    have t2 := is_of x [46, 46]
    by_cases x0 : x.data.toList = []
    · have v0 : x.toList.isEmpty = true := by rw [t0]; simp [x0]
      clear t0 t1 t2 x0 h47
      go_enter Try.func7, Try.ntmps7
      go_wp2_with fail
      go_loop [7] (fun i => ∃ k : Nat, k ≤ x.size ∧ i = .int .i64 k) (fun i => x.size - (RowKit.intOf i).toNat)
      case atStart => exact ⟨0, Nat.zero_le _, rfl⟩
      case round =>
        obtain ⟨k, hk, rfl⟩ := hrel
        by_cases hlt : k < x.size
        · have t1 := H4.out k hlt
          go_wp2_with fail
          go_round
          case rel => exact ⟨k + 1, by omega, by go_num⟩
          case measure => simp [RowKit.intOf]; omega
        · have hge : x.size ≤ k := by omega
          go_wp2
          go_ret
          exact ⟨rfl, Below.refl _ _⟩
    · have v0 : x.toList.isEmpty = false := by rw [t0]; simp [x0]
      by_cases x1 : x.data.toList = [46]
      · have v1 : (x.toList == [46]) = true := by rw [t1]; simp [x1]
        clear t0 t1 t2 x0 x1 h47
        go_enter Try.func7, Try.ntmps7
        go_wp2_with fail
        go_loop [7] (fun i => ∃ k : Nat, k ≤ x.size ∧ i = .int .i64 k) (fun i => x.size - (RowKit.intOf i).toNat)
        case atStart => exact ⟨0, Nat.zero_le _, rfl⟩
        case round =>
          obtain ⟨k, hk, rfl⟩ := hrel
          by_cases hlt : k < x.size
          · have t1 := H4.out k hlt
            go_wp2_with fail
            go_round
            case rel => exact ⟨k + 1, by omega, by go_num⟩
            case measure => simp [RowKit.intOf]; omega
          · have hge : x.size ≤ k := by omega
            go_wp2
            go_ret
            exact ⟨rfl, Below.refl _ _⟩
      · have v1 : (x.toList == [46]) = false := by rw [t1]; simp [x1]
        by_cases x2 : x.data.toList = [46, 46]
        · have v2 : (x.toList == [46, 46]) = true := by rw [t2]; simp [x2]
          clear t0 t1 t2 x0 x1 x2 h47
          go_enter Try.func7, Try.ntmps7
          go_wp2_with fail
          go_loop [7] (fun i => ∃ k : Nat, k ≤ x.size ∧ i = .int .i64 k) (fun i => x.size - (RowKit.intOf i).toNat)
          case atStart => exact ⟨0, Nat.zero_le _, rfl⟩
          case round =>
            obtain ⟨k, hk, rfl⟩ := hrel
            by_cases hlt : k < x.size
            · have t1 := H4.out k hlt
              go_wp2_with fail
              go_round
              case rel => exact ⟨k + 1, by omega, by go_num⟩
              case measure => simp [RowKit.intOf]; omega
            · have hge : x.size ≤ k := by omega
              go_wp2
              go_ret
              exact ⟨rfl, Below.refl _ _⟩
        · have v2 : (x.toList == [46, 46]) = false := by rw [t2]; simp [x2]
          obtain ⟨r, hr⟩ : ∃ r, S (clean (a ++ ⟨#[47]⟩ ++ b).data.toList) = r := ⟨_, rfl⟩
          have h1 : S (clean (a ++ ⟨#[47, 46, 47]⟩ ++ b).data.toList) = r := by rw [← hr, sl_list, sl3_list, M.clean_in_dot]
          have h2 : S (clean (a ++ ⟨#[47, 47]⟩ ++ b).data.toList) = r := by rw [← hr, sl_list, sl2_list, M.clean_in_slash]
          have h3 : S (clean (a ++ ⟨#[47]⟩ ++ x ++ ⟨#[47, 46, 46, 47]⟩ ++ b).data.toList) = r := by rw [← hr, sl_list, slx_list, M.clean_in_up _ _ x0 x1 x2 h47]
          have s0 : (a ++ ⟨#[47]⟩ ++ b).size ≤ 281474976710656 := by rw [sl_size]; omega
          have s1 : (a ++ ⟨#[47, 46, 47]⟩ ++ b).size ≤ 281474976710656 := by rw [app_size, app_size]; show a.size + 3 + b.size ≤ _; omega
          have s2 : (a ++ ⟨#[47, 47]⟩ ++ b).size ≤ 281474976710656 := by rw [app_size, app_size]; show a.size + 2 + b.size ≤ _; omega
          have s3 : (a ++ ⟨#[47]⟩ ++ x ++ ⟨#[47, 46, 46, 47]⟩ ++ b).size ≤ 281474976710656 := by rw [app_size, app_size, app_size, app_size]; show a.size + 1 + x.size + 4 + b.size ≤ _; omega
          have rE := isEmpty_of_pos (clean_pos hr)
          have HR := Lib.hid hr
          have H1 := Lib.hid h1
          have H2 := Lib.hid h2
          have H3 := Lib.hid h3
          have Z0 := Lib.hid s0
          have Z1 := Lib.hid s1
          have Z2 := Lib.hid s2
          have Z3 := Lib.hid s3
          clear hr h1 h2 h3 s0 s1 s2 s3 t0 t1 t2 x0 x1 x2 h47
          go_enter Try.func7, Try.ntmps7
          go_wp2_with fail
          go_loop [7] (fun i => ∃ k : Nat, k ≤ x.size ∧ i = .int .i64 k) (fun i => x.size - (RowKit.intOf i).toNat)
          case atStart => exact ⟨0, Nat.zero_le _, rfl⟩
          case round =>
            obtain ⟨k, hk, rfl⟩ := hrel
            by_cases hlt : k < x.size
            · have t1 := H4.out k hlt
              go_wp2_with fail
              go_round
              case rel => exact ⟨k + 1, by omega, by go_num⟩
              case measure => simp [RowKit.intOf]; omega
            · have hge : x.size ≤ k := by omega
              go_wp2_with fail
              refine (impl_Clean _ r _ Z0.out HR.out).mono ?_
              rintro e w1 ⟨rfl, hb1⟩
              have HB1 := Lib.hid hb1
              clear hb1
              go_wp2_with fail
              refine (impl_Clean _ r _ Z1.out H1.out).mono ?_
              rintro e w2 ⟨rfl, hb2⟩
              have HB2 := Lib.hid (below_step HB1.out hb2)
              clear hb2
              go_wp2_with fail
              refine (impl_Clean _ r _ Z2.out H2.out).mono ?_
              rintro e w3 ⟨rfl, hb3⟩
              have HB3 := Lib.hid (below_step HB2.out hb3)
              clear hb3
              go_wp2_with fail
              refine (impl_Clean _ r _ Z3.out H3.out).mono ?_
              rintro e w4 ⟨rfl, hb4⟩
              have HB4 := Lib.hid (below_step HB3.out hb4)
              clear hb4
              go_wp2
              go_ret
              exact ⟨by simp, HB4.out⟩
  · have HJ := Lib.hid hj2
    clear hj2
    go_enter Try.func7, Try.ntmps7
    go_wp2_with fail
    go_loop [7] (fun i => ∃ k : Nat, k ≤ j ∧ i = .int .i64 k) (fun i => j - (RowKit.intOf i).toNat)
    case atStart => exact ⟨0, Nat.zero_le _, rfl⟩
    case round =>
      obtain ⟨k, hk, rfl⟩ := hrel
      by_cases hlt : k < j
      · have hkf : k < x.size := by omega
        have t1 := HJ.out k hkf hlt
        go_wp2
        go_round
        case rel => exact ⟨k + 1, by omega, by go_num⟩
        case measure => simp [RowKit.intOf]; omega
      · obtain rfl : j = k := by omega
        go_wp2
        go_ret
        exact ⟨rfl, Below.refl _ _⟩

theorem law_FnClean (s : ByteArray) (w : World) (hs : s.size ≤ 1048576) : Calls Try.prog 4 #[.string s] w fun e w' => e = .returned (.bool true) ∧ Below w.heap.size w w' := by
  obtain ⟨r, hr⟩ : ∃ r, S (clean s.data.toList) = r := ⟨_, rfl⟩
  have HR := Lib.hid hr
  clear hr
  go_enter Try.func4, Try.ntmps4
  go_wp2_with fail
  refine (impl_Clean s r _ (by omega) HR.out).mono ?_
  rintro e w1 ⟨rfl, hb1⟩
  have HB1 := Lib.hid hb1
  clear hb1
  go_wp2_with fail
  refine (spec_Clean s r _ (by omega) HR.out).mono ?_
  rintro e w2 ⟨rfl, hb2⟩
  have HB2 := Lib.hid (below_step HB1.out hb2)
  clear hb2
  go_wp2
  go_ret
  exact ⟨by simp, HB2.out⟩

theorem s47 (d : ByteArray) : (d ++ ⟨#[47]⟩).data.toList = d.data.toList ++ [47] := by rw [app_list]
theorem s4747 (d : ByteArray) : (d ++ ⟨#[47, 47]⟩).data.toList = d.data.toList ++ [47] ++ [47] := by rw [app_list, List.append_assoc]; rfl

set_option maxHeartbeats 800000 in
theorem base_tail_rest (d fl : ByteArray) (w : World) (hd : d.size ≤ 140737488351232) (hf : fl.size ≤ 140737488351232) (hd0 : 0 < d.size) : Calls Try.prog 3 #[.string d, .string fl] w fun e w' => e = .returned (.bool true) ∧ Below w.heap.size w w' := by
  have dE := isEmpty_of_pos hd0
  obtain ⟨r, hr⟩ : ∃ r, S (base d.data.toList) = r := ⟨_, rfl⟩
  have hr2 : S (base (d ++ ⟨#[47]⟩).data.toList) = r := by rw [s47, M.base_slash (ne_nil_of hd0), hr]
  have s1 : (d ++ ⟨#[47]⟩).size ≤ 9223372036854775807 := by rw [app_size]; show d.size + 1 ≤ _; omega
  have HR := Lib.hid hr
  have HR2 := Lib.hid hr2
  have Z1 := Lib.hid s1
  clear hr hr2 s1
  by_cases hf0 : 0 < fl.size
  · have fE := isEmpty_of_pos hf0
    rcases first_slash fl with h47 | ⟨j, hj, hj1, hj2⟩
    · have H4 := Lib.hid (none47 fl h47)
      have h1 : S (base (d ++ ⟨#[47]⟩ ++ fl).data.toList) = fl := by rw [sl_list, M.base_file _ (ne_nil_of hf0) h47, S_data]
      have h2 : S (base (fl ++ ⟨#[47, 47]⟩).data.toList) = fl := by rw [s4747, M.base_slash (by simp), M.base_slash (ne_nil_of hf0), M.base_name (ne_nil_of hf0) h47, S_data]
      have s1 : (d ++ ⟨#[47]⟩ ++ fl).size ≤ 9223372036854775807 := by rw [sl_size]; omega
      have s2 : (fl ++ ⟨#[47, 47]⟩).size ≤ 9223372036854775807 := by rw [app_size]; show fl.size + 2 ≤ _; omega
      have H1 := Lib.hid h1
      have H2 := Lib.hid h2
      have Z3 := Lib.hid s1
      have Z4 := Lib.hid s2
      clear h1 h2 s1 s2 h47
      go_enter Try.func3, Try.ntmps3
      go_wp2_with fail
      refine (impl_Base _ r _ Z1.out HR2.out).mono ?_
      rintro e w' ⟨rfl, rfl⟩
      go_wp2_with fail
      refine (impl_Base d r _ (by omega) HR.out).mono ?_
      rintro e w' ⟨rfl, rfl⟩
      go_wp2_with fail
      go_loop [5] (fun i => ∃ k : Nat, k ≤ fl.size ∧ i = .int .i64 k) (fun i => fl.size - (RowKit.intOf i).toNat)
      case atStart => exact ⟨0, Nat.zero_le _, rfl⟩
      case round =>
        obtain ⟨k, hk, rfl⟩ := hrel
        by_cases hlt : k < fl.size
        · have t1 := H4.out k hlt
          go_wp2_with fail
          go_round
          case rel => exact ⟨k + 1, by omega, by go_num⟩
          case measure => simp [RowKit.intOf]; omega
        · have hge : fl.size ≤ k := by omega
          go_wp2_with fail
          refine (impl_Base _ fl _ Z3.out H1.out).mono ?_
          rintro e w' ⟨rfl, rfl⟩
          go_wp2_with fail
          refine (impl_Base _ fl _ Z4.out H2.out).mono ?_
          rintro e w' ⟨rfl, rfl⟩
          go_wp2
          go_ret
          exact ⟨by simp, Below.refl _ _⟩
    · have HJ := Lib.hid hj2
      clear hj2
      go_enter Try.func3, Try.ntmps3
      go_wp2_with fail
      refine (impl_Base _ r _ Z1.out HR2.out).mono ?_
      rintro e w' ⟨rfl, rfl⟩
      go_wp2_with fail
      refine (impl_Base d r _ (by omega) HR.out).mono ?_
      rintro e w' ⟨rfl, rfl⟩
      go_wp2_with fail
      go_loop [5] (fun i => ∃ k : Nat, k ≤ j ∧ i = .int .i64 k) (fun i => j - (RowKit.intOf i).toNat)
      case atStart => exact ⟨0, Nat.zero_le _, rfl⟩
      case round =>
        obtain ⟨k, hk, rfl⟩ := hrel
        by_cases hlt : k < j
        · have hkf : k < fl.size := by omega
          have t1 := HJ.out k hkf hlt
          go_wp2
          go_round
          case rel => exact ⟨k + 1, by omega, by go_num⟩
          case measure => simp [RowKit.intOf]; omega
        · obtain rfl : j = k := by omega
          go_wp2
          go_ret
          exact ⟨rfl, Below.refl _ _⟩
  · have fE := isEmpty_of_size (s := fl) (by omega)
    go_enter Try.func3, Try.ntmps3
    go_wp2_with fail
    refine (impl_Base _ r _ Z1.out HR2.out).mono ?_
    rintro e w' ⟨rfl, rfl⟩
    go_wp2_with fail
    refine (impl_Base d r _ (by omega) HR.out).mono ?_
    rintro e w' ⟨rfl, rfl⟩
    go_wp2_with fail
    refine (impl_Base ⟨#[]⟩ ⟨#[46]⟩ _ (by decide) rfl).mono ?_
    rintro e w' ⟨rfl, rfl⟩
    go_wp2
    go_ret
    exact ⟨rfl, Below.refl _ _⟩

set_option maxHeartbeats 800000 in
theorem law_FnBaseTail (d fl : ByteArray) (w : World) (hd : d.size ≤ 140737488351232) (hf : fl.size ≤ 140737488351232) : Calls Try.prog 3 #[.string d, .string fl] w fun e w' => e = .returned (.bool true) ∧ Below w.heap.size w w' := by
  by_cases hd0 : 0 < d.size
  · exact base_tail_rest d fl w hd hf hd0
  · have dE := isEmpty_of_size (s := d) (by omega)
    by_cases hf0 : 0 < fl.size
    · have fE := isEmpty_of_pos hf0
      rcases first_slash fl with h47 | ⟨j, hj, hj1, hj2⟩
      · have H4 := Lib.hid (none47 fl h47)
        have h1 : S (base (d ++ ⟨#[47]⟩ ++ fl).data.toList) = fl := by rw [sl_list, M.base_file _ (ne_nil_of hf0) h47, S_data]
        have h2 : S (base (fl ++ ⟨#[47, 47]⟩).data.toList) = fl := by rw [s4747, M.base_slash (by simp), M.base_slash (ne_nil_of hf0), M.base_name (ne_nil_of hf0) h47, S_data]
        have s1 : (d ++ ⟨#[47]⟩ ++ fl).size ≤ 9223372036854775807 := by rw [sl_size]; omega
        have s2 : (fl ++ ⟨#[47, 47]⟩).size ≤ 9223372036854775807 := by rw [app_size]; show fl.size + 2 ≤ _; omega
        have H1 := Lib.hid h1
        have H2 := Lib.hid h2
        have Z3 := Lib.hid s1
        have Z4 := Lib.hid s2
        clear h1 h2 s1 s2 h47
        go_enter Try.func3, Try.ntmps3
        go_wp2_with fail
        go_loop [5] (fun i => ∃ k : Nat, k ≤ fl.size ∧ i = .int .i64 k) (fun i => fl.size - (RowKit.intOf i).toNat)
        case atStart => exact ⟨0, Nat.zero_le _, rfl⟩
        case round =>
          obtain ⟨k, hk, rfl⟩ := hrel
          by_cases hlt : k < fl.size
          · have t1 := H4.out k hlt
            go_wp2_with fail
            go_round
            case rel => exact ⟨k + 1, by omega, by go_num⟩
            case measure => simp [RowKit.intOf]; omega
          · have hge : fl.size ≤ k := by omega
            go_wp2_with fail
            refine (impl_Base _ fl _ Z3.out H1.out).mono ?_
            rintro e w' ⟨rfl, rfl⟩
            go_wp2_with fail
            refine (impl_Base _ fl _ Z4.out H2.out).mono ?_
            rintro e w' ⟨rfl, rfl⟩
            go_wp2
            go_ret
            exact ⟨by simp, Below.refl _ _⟩
      · have HJ := Lib.hid hj2
        clear hj2
        go_enter Try.func3, Try.ntmps3
        go_wp2_with fail
        go_loop [5] (fun i => ∃ k : Nat, k ≤ j ∧ i = .int .i64 k) (fun i => j - (RowKit.intOf i).toNat)
        case atStart => exact ⟨0, Nat.zero_le _, rfl⟩
        case round =>
          obtain ⟨k, hk, rfl⟩ := hrel
          by_cases hlt : k < j
          · have hkf : k < fl.size := by omega
            have t1 := HJ.out k hkf hlt
            go_wp2
            go_round
            case rel => exact ⟨k + 1, by omega, by go_num⟩
            case measure => simp [RowKit.intOf]; omega
          · obtain rfl : j = k := by omega
            go_wp2
            go_ret
            exact ⟨rfl, Below.refl _ _⟩
    · have fE := isEmpty_of_size (s := fl) (by omega)
      go_enter Try.func3, Try.ntmps3
      go_wp2_with fail
      refine (impl_Base ⟨#[]⟩ ⟨#[46]⟩ _ (by decide) rfl).mono ?_
      rintro e w' ⟨rfl, rfl⟩
      go_wp2
      go_ret
      exact ⟨rfl, Below.refl _ _⟩

theorem draws_below {B : Nat} {a w : World} (h : Below B a w) (n : Nat) : Below B a (w.drewN n) := ⟨h.os, h.tape, h.output, h.size, h.block⟩

theorem spec_Dir (s r : ByteArray) (w : World) (hs : s.size ≤ 1048576) (hr : S (dir s.data.toList) = r) : Calls Try.prog 22 #[.string s] w fun e w' => e = .returned (.string r) ∧ Below w.heap.size w w' := by
  obtain ⟨d, hd⟩ : ∃ d, S (split s.data.toList).1 = d := ⟨_, rfl⟩
  obtain ⟨fl, hf⟩ : ∃ fl, S (split s.data.toList).2 = fl := ⟨_, rfl⟩
  have hdz : d.size ≤ 1048576 := by
    have := (split_sizes s.data.toList).1
    rw [← hd, S_size]; rw [Lib.size_eq] at hs; omega
  have hdr : S (clean d.data.toList) = r := by rw [list_of hd]; exact hr
  have HD := Lib.hid hd
  have HF := Lib.hid hf
  have HR := Lib.hid hdr
  clear hd hf hdr hr
  go_enter Try.func22, Try.ntmps22
  go_wp2_with fail
  refine (spec_Split_is s d fl _ (by omega) HD.out HF.out).mono ?_
  rintro e w' ⟨rfl, n, rfl⟩
  have hb := draws_below (Below.refl w.heap.size w) n
  generalize w.drewN n = w1 at hb ⊢
  have HB1 := Lib.hid hb
  clear hb
  go_wp2_with fail
  refine (spec_Clean d r _ (by omega) HR.out).mono ?_
  rintro e w2 ⟨rfl, hb2⟩
  have HB2 := Lib.hid (below_step HB1.out hb2)
  clear hb2
  go_wp2
  go_ret
  exact ⟨rfl, HB2.out⟩

theorem law_FnDir (s : ByteArray) (w : World) (hs : s.size ≤ 1048576) : Calls Try.prog 12 #[.string s] w fun e w' => e = .returned (.bool true) ∧ Below w.heap.size w w' := by
  obtain ⟨r, hr⟩ : ∃ r, S (dir s.data.toList) = r := ⟨_, rfl⟩
  have HR := Lib.hid hr
  clear hr
  cases hb : trailed s.data.toList with
  | true =>
    have HT := Lib.hid hb
    clear hb
    go_enter Try.func12, Try.ntmps12
    go_wp2_with fail
    refine (spec_Trailed_is s true _ (by omega) HT.out).mono ?_
    rintro e w' ⟨rfl, rfl⟩
    go_wp2
    go_ret
    exact ⟨rfl, Below.refl _ _⟩
  | false =>
    have HT := Lib.hid hb
    clear hb
    go_enter Try.func12, Try.ntmps12
    go_wp2_with fail
    refine (spec_Trailed_is s false _ (by omega) HT.out).mono ?_
    rintro e w' ⟨rfl, rfl⟩
    go_wp2_with fail
    refine (impl_Dir s r _ (by omega) HR.out).mono ?_
    rintro e w1 ⟨rfl, hb1⟩
    have HB1 := Lib.hid hb1
    clear hb1
    go_wp2_with fail
    refine (spec_Dir s r _ (by omega) HR.out).mono ?_
    rintro e w2 ⟨rfl, hb2⟩
    have HB2 := Lib.hid (below_step HB1.out hb2)
    clear hb2
    go_wp2
    go_ret
    exact ⟨by simp, HB2.out⟩

theorem dir_slash (l : List UInt8) : dir (l ++ [47]) = clean (l ++ [47]) := by
  unfold dir
  rw [M.split_mk (by simp)]

theorem law_FnDirTrailed (s : ByteArray) (w : World) (hs : s.size ≤ 1048576) : Calls Try.prog 14 #[.string s] w fun e w' => e = .returned (.bool true) ∧ Below w.heap.size w w' := by
  obtain ⟨r, hr⟩ : ∃ r, S (clean (s ++ ⟨#[47]⟩).data.toList) = r := ⟨_, rfl⟩
  have hr2 : S (dir (s ++ ⟨#[47]⟩).data.toList) = r := by rw [← hr, s47, dir_slash]
  have hz : (s ++ ⟨#[47]⟩).size ≤ 1048577 := by rw [app_size]; show s.size + 1 ≤ _; omega
  have HR := Lib.hid hr
  have HR2 := Lib.hid hr2
  have HZ := Lib.hid hz
  clear hr hr2 hz
  go_enter Try.func14, Try.ntmps14
  go_wp2_with fail
  refine (impl_Dir _ r _ (Nat.le_trans HZ.out (by decide)) HR2.out).mono ?_
  rintro e w1 ⟨rfl, hb1⟩
  have HB1 := Lib.hid hb1
  clear hb1
  go_wp2_with fail
  refine (spec_Clean _ r _ (Nat.le_trans HZ.out (by decide)) HR.out).mono ?_
  rintro e w2 ⟨rfl, hb2⟩
  have HB2 := Lib.hid (below_step HB1.out hb2)
  clear hb2
  go_wp2
  go_ret
  exact ⟨by simp, HB2.out⟩

theorem last_ne {x : List UInt8} (h : 47 ∉ x) : x.getLast? ≠ some 47 := fun e => h (List.mem_of_getLast? e)
theorem J_last : ∀ (es : List (List UInt8)), es ≠ [] → (∀ e ∈ es, M.Ok e) → (M.J es).getLast? ≠ some 47
  | [], h, _ => absurd rfl h
  | [x], _, h => by rw [M.J_single]; exact last_ne (h x (by simp)).2.2
  | x :: y :: r, _, h => by
    have ih := J_last (y :: r) (by simp) fun e he => h e (List.mem_cons_of_mem _ he)
    have hne : M.J (y :: r) ≠ [] := fun e => by
      have := (M.J_eq_nil fun e he => (h e (List.mem_cons_of_mem _ he)).1).1 e
      cases this
    rw [M.J_cons2, List.getLast?_append]
    intro e
    have h3 : (47 :: M.J (y :: r)).getLast? = (M.J (y :: r)).getLast? := by
      cases hj : M.J (y :: r) with
      | nil => exact absurd hj hne
      | cons c t => rw [List.getLast?_cons_cons]
    rw [h3] at e
    cases hj : (M.J (y :: r)).getLast? with
    | none => exact hne (List.getLast?_eq_none_iff.1 hj)
    | some c => rw [hj] at e ih; simp at e; exact ih (by rw [e])
/-- a cleaned path ends with a slash only if it is one -/
theorem clean_end (l : List UInt8) : clean l = [47] ∨ trailed (clean l) = false := by
  by_cases h : clean l = [47]
  · exact .inl h
  · right
    unfold trailed
    rw [M.clean_eq] at h ⊢
    have ok : ∀ e ∈ M.E (M.ro l) l, M.Ok e := fun e he => M.ok_E he
    unfold M.render at h ⊢
    cases hr : M.ro l with
    | true =>
      rw [hr] at h ok
      simp only [if_true] at h ⊢
      have hne : M.E true l ≠ [] := fun e => h (by rw [e]; rfl)
      have h2 := J_last _ hne ok
      have h3 : M.J (M.E true l) ≠ [] := fun e => hne ((M.J_eq_nil fun e he => (ok e he).1).1 e)
      cases hj : M.J (M.E true l) with
      | nil => exact absurd hj h3
      | cons c t =>
        rw [hj] at h2
        rw [List.getLast?_cons_cons]
        simpa using h2
    | false =>
      rw [hr] at h ok
      simp only [Bool.false_eq_true, if_false] at h ⊢
      by_cases he : M.E false l = []
      · rw [if_pos he]; rfl
      · rw [if_neg he]
        simpa using J_last _ he ok

theorem dir_slashes (n : Nat) : dir (List.replicate (n + 1) 47) = [47] := by
  have e : List.replicate (n + 1) (47 : UInt8) = List.replicate n 47 ++ [47] := List.replicate_succ'
  rw [e, dir_slash, ← e]
  have e2 : List.replicate (n + 1) (47 : UInt8) = [47] ++ List.replicate n 47 := rfl
  rw [e2, M.clean_tail (by simp)]
  decide
theorem slashes_snoc (k : Nat) : S (List.replicate k 47) ++ ⟨#[47]⟩ = S (List.replicate (k + 1) 47) := by
  rw [← S_data (S _ ++ _), app_list, S_toList, List.replicate_succ']

set_option maxHeartbeats 800000 in
theorem dirend_tail (s d : ByteArray) (n : Int) (w : World) (hs : s.size ≤ 140737488351232) (hdd : S (dir s.data.toList) = d) (hn : (Lit.int .i64 n).wf = true)
    (q : Bool) (hq : (d.toList == [47]) = q) (ht : q = false → trailed d.data.toList = false) (hE : s.toList.isEmpty = true → (d.toList == [46]) = true) : Calls Try.prog 13 #[.string s, .int .i64 n] w fun e w' => e = .returned (.bool true) ∧ Below w.heap.size w w' := by
  have hdz : d.size ≤ 140737488351233 := by
    have := dir_le s.data.toList
    rw [← hdd, S_size]; rw [← Lib.size_eq] at this; omega
  have dE := isEmpty_of_pos (s := d) (by rw [← hdd, S_size]; exact List.length_pos_iff.2 (M.clean_ne _))
  have HD := Lib.hid hdd
  clear hdd
  obtain ⟨m, hm⟩ : ∃ m : Nat, n < 1 ∨ 100 < n ∨ n = (m : Int) + 1 := by
    by_cases h1 : n < 1
    · exact ⟨0, .inl h1⟩
    · exact ⟨(n - 1).toNat, .inr (.inr (by omega))⟩
  cases hse : s.toList.isEmpty with
  | true =>
    have u1 := hE hse
    have u2 : (d.toList != [46]) = false := by unfold bne; rw [u1]; rfl
    cases q with
    | true =>
      exfalso
      rw [is_of] at u1 hq
      have e1 := of_decide_eq_true u1
      have e2 := of_decide_eq_true hq
      rw [e1] at e2
      exact absurd e2 (by decide)
    | false =>
      have q1 : (d.toList == [47]) = false := hq
      have q2 : (d.toList != [47]) = true := by unfold bne; rw [q1]; rfl
      have HT := Lib.hid (ht rfl)
      clear hq ht hE
      rcases hm with h1 | h1 | rfl
      · go_enter Try.func13, Try.ntmps13
        go_wp2_with fail
        refine (impl_Dir s d _ (by omega) HD.out).mono ?_
        rintro e w1 ⟨rfl, hb1⟩
        have HB1 := Lib.hid hb1
        clear hb1
        go_wp2_with fail
        refine (spec_Trailed_is d false _ (by omega) HT.out).mono ?_
        rintro e w' ⟨rfl, rfl⟩
        go_wp2
        go_ret
        exact ⟨rfl, HB1.out⟩
      · go_enter Try.func13, Try.ntmps13
        go_wp2_with fail
        refine (impl_Dir s d _ (by omega) HD.out).mono ?_
        rintro e w1 ⟨rfl, hb1⟩
        have HB1 := Lib.hid hb1
        clear hb1
        go_wp2_with fail
        refine (spec_Trailed_is d false _ (by omega) HT.out).mono ?_
        rintro e w' ⟨rfl, rfl⟩
        go_wp2
        go_ret
        exact ⟨rfl, HB1.out⟩
      · by_cases hm2 : m < 100
        · have hdz2 : S (dir (S (List.replicate (m + 1) 47)).data.toList) = ⟨#[47]⟩ := by rw [S_toList, dir_slashes]; rfl
          have HDZ := Lib.hid hdz2
          have c1 : ¬ ((m : Int) + 1 < 1) := by omega
          have c2 : ¬ (100 < (m : Int) + 1) := by omega
          clear hdz2 hn
          go_enter Try.func13, Try.ntmps13
          go_wp2_with fail
          refine (impl_Dir s d _ (by omega) HD.out).mono ?_
          rintro e w1 ⟨rfl, hb1⟩
          have HB1 := Lib.hid hb1
          clear hb1
          go_wp2_with fail
          refine (spec_Trailed_is d false _ (by omega) HT.out).mono ?_
          rintro e w' ⟨rfl, rfl⟩
          go_wp2_with fail
          go_loop [6, 7] (fun s i => ∃ (k : Nat) (T : ByteArray), k ≤ m + 1 ∧ i = .int .i64 k ∧ s = .string T ∧ Hid (T = S (List.replicate k 47))) (fun _ i => m + 1 - (RowKit.intOf i).toNat)
          case atStart => exact ⟨0, ⟨#[]⟩, Nat.zero_le _, rfl, rfl, by show _ = _; rfl⟩
          case round =>
            obtain ⟨k, T, hk, rfl, rfl, hT⟩ := hrel
            have hTb : T.size ≤ 101 := by rw [hT.out, S_size, List.length_replicate]; omega
            by_cases hlt : k < m + 1
            · have hlt2 : (k : Int) < (m : Int) + 1 := by omega
              go_wp2
              go_round
              case rel => exact ⟨k + 1, T ++ ⟨#[47]⟩, by omega, by go_num, rfl, by show _ = _; rw [hT.out]; exact slashes_snoc k⟩
              case measure => simp [RowKit.intOf]; omega
            · have hkm : k = m + 1 := by omega
              have HTZ := Lib.hid (show S (dir T.data.toList) = ⟨#[47]⟩ by rw [hT.out, hkm]; exact HDZ.out)
              have hlt2 : ¬ ((k : Int) < (m : Int) + 1) := by omega
              clear hkm
              go_wp2_with fail
              refine (impl_Dir T ⟨#[47]⟩ _ (by omega) HTZ.out).mono ?_
              rintro e w2 ⟨rfl, hb2⟩
              have HB2 := Lib.hid (below_step HB1.out hb2)
              clear hb2
              go_wp2
              go_ret
              exact ⟨rfl, HB2.out⟩
        · have c1 : ¬ ((m : Int) + 1 < 1) := by omega
          have c2 : 100 < (m : Int) + 1 := by omega
          obtain ⟨n, hnn⟩ : ∃ n : Int, n = (m : Int) + 1 := ⟨_, rfl⟩
          rw [← hnn] at c1 c2 hn ⊢
          clear hnn hm2
          go_enter Try.func13, Try.ntmps13
          go_wp2_with fail
          refine (impl_Dir s d _ (by omega) HD.out).mono ?_
          rintro e w1 ⟨rfl, hb1⟩
          have HB1 := Lib.hid hb1
          clear hb1
          go_wp2_with fail
          refine (spec_Trailed_is d false _ (by omega) HT.out).mono ?_
          rintro e w' ⟨rfl, rfl⟩
          go_wp2
          go_ret
          exact ⟨rfl, HB1.out⟩
  | false =>
    cases q with
    | true =>
      have q1 : (d.toList == [47]) = true := hq
      have q2 : (d.toList != [47]) = false := by unfold bne; rw [q1]; rfl
      clear hq ht hE
      rcases hm with h1 | h1 | rfl
      · go_enter Try.func13, Try.ntmps13
        go_wp2_with fail
        refine (impl_Dir s d _ (by omega) HD.out).mono ?_
        rintro e w1 ⟨rfl, hb1⟩
        have HB1 := Lib.hid hb1
        clear hb1
        go_wp2
        go_ret
        exact ⟨rfl, HB1.out⟩
      · go_enter Try.func13, Try.ntmps13
        go_wp2_with fail
        refine (impl_Dir s d _ (by omega) HD.out).mono ?_
        rintro e w1 ⟨rfl, hb1⟩
        have HB1 := Lib.hid hb1
        clear hb1
        go_wp2
        go_ret
        exact ⟨rfl, HB1.out⟩
      · by_cases hm2 : m < 100
        · have hdz2 : S (dir (S (List.replicate (m + 1) 47)).data.toList) = ⟨#[47]⟩ := by rw [S_toList, dir_slashes]; rfl
          have HDZ := Lib.hid hdz2
          have c1 : ¬ ((m : Int) + 1 < 1) := by omega
          have c2 : ¬ (100 < (m : Int) + 1) := by omega
          clear hdz2 hn
          go_enter Try.func13, Try.ntmps13
          go_wp2_with fail
          refine (impl_Dir s d _ (by omega) HD.out).mono ?_
          rintro e w1 ⟨rfl, hb1⟩
          have HB1 := Lib.hid hb1
          clear hb1
          go_wp2_with fail
          go_loop [6, 7] (fun s i => ∃ (k : Nat) (T : ByteArray), k ≤ m + 1 ∧ i = .int .i64 k ∧ s = .string T ∧ Hid (T = S (List.replicate k 47))) (fun _ i => m + 1 - (RowKit.intOf i).toNat)
          case atStart => exact ⟨0, ⟨#[]⟩, Nat.zero_le _, rfl, rfl, by show _ = _; rfl⟩
          case round =>
            obtain ⟨k, T, hk, rfl, rfl, hT⟩ := hrel
            have hTb : T.size ≤ 101 := by rw [hT.out, S_size, List.length_replicate]; omega
            by_cases hlt : k < m + 1
            · have hlt2 : (k : Int) < (m : Int) + 1 := by omega
              go_wp2
              go_round
              case rel => exact ⟨k + 1, T ++ ⟨#[47]⟩, by omega, by go_num, rfl, by show _ = _; rw [hT.out]; exact slashes_snoc k⟩
              case measure => simp [RowKit.intOf]; omega
            · have hkm : k = m + 1 := by omega
              have HTZ := Lib.hid (show S (dir T.data.toList) = ⟨#[47]⟩ by rw [hT.out, hkm]; exact HDZ.out)
              have hlt2 : ¬ ((k : Int) < (m : Int) + 1) := by omega
              clear hkm
              go_wp2_with fail
              refine (impl_Dir T ⟨#[47]⟩ _ (by omega) HTZ.out).mono ?_
              rintro e w2 ⟨rfl, hb2⟩
              have HB2 := Lib.hid (below_step HB1.out hb2)
              clear hb2
              go_wp2
              go_ret
              exact ⟨rfl, HB2.out⟩
        · have c1 : ¬ ((m : Int) + 1 < 1) := by omega
          have c2 : 100 < (m : Int) + 1 := by omega
          obtain ⟨n, hnn⟩ : ∃ n : Int, n = (m : Int) + 1 := ⟨_, rfl⟩
          rw [← hnn] at c1 c2 hn ⊢
          clear hnn hm2
          go_enter Try.func13, Try.ntmps13
          go_wp2_with fail
          refine (impl_Dir s d _ (by omega) HD.out).mono ?_
          rintro e w1 ⟨rfl, hb1⟩
          have HB1 := Lib.hid hb1
          clear hb1
          go_wp2
          go_ret
          exact ⟨rfl, HB1.out⟩
    | false =>
      have q1 : (d.toList == [47]) = false := hq
      have q2 : (d.toList != [47]) = true := by unfold bne; rw [q1]; rfl
      have HT := Lib.hid (ht rfl)
      clear hq ht hE
      rcases hm with h1 | h1 | rfl
      · go_enter Try.func13, Try.ntmps13
        go_wp2_with fail
        refine (impl_Dir s d _ (by omega) HD.out).mono ?_
        rintro e w1 ⟨rfl, hb1⟩
        have HB1 := Lib.hid hb1
        clear hb1
        go_wp2_with fail
        refine (spec_Trailed_is d false _ (by omega) HT.out).mono ?_
        rintro e w' ⟨rfl, rfl⟩
        go_wp2
        go_ret
        exact ⟨rfl, HB1.out⟩
      · go_enter Try.func13, Try.ntmps13
        go_wp2_with fail
        refine (impl_Dir s d _ (by omega) HD.out).mono ?_
        rintro e w1 ⟨rfl, hb1⟩
        have HB1 := Lib.hid hb1
        clear hb1
        go_wp2_with fail
        refine (spec_Trailed_is d false _ (by omega) HT.out).mono ?_
        rintro e w' ⟨rfl, rfl⟩
        go_wp2
        go_ret
        exact ⟨rfl, HB1.out⟩
      · by_cases hm2 : m < 100
        · have hdz2 : S (dir (S (List.replicate (m + 1) 47)).data.toList) = ⟨#[47]⟩ := by rw [S_toList, dir_slashes]; rfl
          have HDZ := Lib.hid hdz2
          have c1 : ¬ ((m : Int) + 1 < 1) := by omega
          have c2 : ¬ (100 < (m : Int) + 1) := by omega
          clear hdz2 hn
          go_enter Try.func13, Try.ntmps13
          go_wp2_with fail
          refine (impl_Dir s d _ (by omega) HD.out).mono ?_
          rintro e w1 ⟨rfl, hb1⟩
          have HB1 := Lib.hid hb1
          clear hb1
          go_wp2_with fail
          refine (spec_Trailed_is d false _ (by omega) HT.out).mono ?_
          rintro e w' ⟨rfl, rfl⟩
          go_wp2_with fail
          go_loop [6, 7] (fun s i => ∃ (k : Nat) (T : ByteArray), k ≤ m + 1 ∧ i = .int .i64 k ∧ s = .string T ∧ Hid (T = S (List.replicate k 47))) (fun _ i => m + 1 - (RowKit.intOf i).toNat)
          case atStart => exact ⟨0, ⟨#[]⟩, Nat.zero_le _, rfl, rfl, by show _ = _; rfl⟩
          case round =>
            obtain ⟨k, T, hk, rfl, rfl, hT⟩ := hrel
            have hTb : T.size ≤ 101 := by rw [hT.out, S_size, List.length_replicate]; omega
            by_cases hlt : k < m + 1
            · have hlt2 : (k : Int) < (m : Int) + 1 := by omega
              go_wp2
              go_round
              case rel => exact ⟨k + 1, T ++ ⟨#[47]⟩, by omega, by go_num, rfl, by show _ = _; rw [hT.out]; exact slashes_snoc k⟩
              case measure => simp [RowKit.intOf]; omega
            · have hkm : k = m + 1 := by omega
              have HTZ := Lib.hid (show S (dir T.data.toList) = ⟨#[47]⟩ by rw [hT.out, hkm]; exact HDZ.out)
              have hlt2 : ¬ ((k : Int) < (m : Int) + 1) := by omega
              clear hkm
              go_wp2_with fail
              refine (impl_Dir T ⟨#[47]⟩ _ (by omega) HTZ.out).mono ?_
              rintro e w2 ⟨rfl, hb2⟩
              have HB2 := Lib.hid (below_step HB1.out hb2)
              clear hb2
              go_wp2
              go_ret
              exact ⟨rfl, HB2.out⟩
        · have c1 : ¬ ((m : Int) + 1 < 1) := by omega
          have c2 : 100 < (m : Int) + 1 := by omega
          obtain ⟨n, hnn⟩ : ∃ n : Int, n = (m : Int) + 1 := ⟨_, rfl⟩
          rw [← hnn] at c1 c2 hn ⊢
          clear hnn hm2
          go_enter Try.func13, Try.ntmps13
          go_wp2_with fail
          refine (impl_Dir s d _ (by omega) HD.out).mono ?_
          rintro e w1 ⟨rfl, hb1⟩
          have HB1 := Lib.hid hb1
          clear hb1
          go_wp2_with fail
          refine (spec_Trailed_is d false _ (by omega) HT.out).mono ?_
          rintro e w' ⟨rfl, rfl⟩
          go_wp2
          go_ret
          exact ⟨rfl, HB1.out⟩

theorem law_FnDirEnd (s : ByteArray) (n : Int) (w : World) (hs : s.size ≤ 140737488351232) (hn : (Lit.int .i64 n).wf = true) : Calls Try.prog 13 #[.string s, .int .i64 n] w fun e w' => e = .returned (.bool true) ∧ Below w.heap.size w w' := by
  refine dirend_tail s _ n w hs rfl hn _ rfl ?_ ?_
  · intro h
    rw [S_toList]
    rcases clean_end (split s.data.toList).1 with h2 | h2
    · exfalso
      rw [is_of, S_toList] at h
      have h3 : dir s.data.toList = [47] := h2
      rw [h3] at h
      simp at h
    · exact h2
  · intro h
    rw [Lib.toList_data] at h
    rw [is_of, S_toList, List.isEmpty_iff.1 h]
    decide

end Go.Proofs.Ytodfjjkjkkpkhaa
