/-
  Contracts of spec.Split, spec.Ext and spec.Base, for every string: they return what the library's own functions return.
-/
import Derived.Test.YtkkbbjekiacfeaaBasic
import Derived.Test.YtkkbbjekiacfeaaParts
import Derived.RegionTactic
import Derived.Deep.Draws
namespace Go.Proofs.Ytkkbbjekiacfeaa
open Go.RowKit Go.Lib
open Go.Lib.Pa (clean isAbs split ext base dir)

theorem lastIdx_succ (l : List UInt8) (c : UInt8) (k : Nat) : Pa.lastIdx l c (k + 1) = if l[k]? = some c then (k : Int) else Pa.lastIdx l c k := rfl

theorem split_hit (s : ByteArray) (k : Nat) (h : k < s.size) (ht : (((s[k]'h).toNat : Int) == 47) = true) : (Pa.lastIdx s.data.toList 47 (k + 1) + 1).toNat = k + 1 := by
  have e := Pa.at_eq s k h
  rw [Pa.beq47, beq_iff_eq] at ht
  rw [lastIdx_succ, e, ht, if_pos rfl]; omega
theorem split_miss (s : ByteArray) (k : Nat) (h : k < s.size) (ht : (((s[k]'h).toNat : Int) == 47) = false) : Pa.lastIdx s.data.toList 47 (k + 1) = Pa.lastIdx s.data.toList 47 k := by
  have e := Pa.at_eq s k h
  rw [Pa.beq47, beq_eq_false_iff_ne] at ht
  rw [lastIdx_succ, e, if_neg (fun x => ht (Option.some.inj x))]

set_option maxHeartbeats 400000 in
theorem spec_Split (s : ByteArray) (w : World) (hs : s.size ≤ 9223372036854775807) :
    Calls Try.prog 24 #[.string s] w fun e w' => e = .returned (.tuple #[.string ⟨(split s.data.toList).1.toArray⟩, .string ⟨(split s.data.toList).2.toArray⟩]) ∧ ∃ n, w' = w.drewN n := by
  go_enter Try.func24, Try.ntmps24
  go_wp2
  go_loop [4, 5] (fun at' i => ∃ k a : Nat, k ≤ s.size ∧ a ≤ k ∧ i = .int .i64 k ∧ at' = .int .i64 a ∧ Hid ((Pa.lastIdx s.data.toList 47 k + 1).toNat = a)) (fun _ i => s.size - (RowKit.intOf i).toNat)
  case atStart => exact ⟨0, 0, Nat.zero_le _, Nat.le_refl _, rfl, rfl, by show _ = _; rfl⟩
  case round =>
    obtain ⟨k, a, hk, ha, rfl, rfl, hh⟩ := hrel
    by_cases hlt : k < s.size
    · go_wp2
      · go_round
        case rel => exact ⟨k + 1, k + 1, by omega, by omega, by go_num, by go_num, split_hit s k hlt (by assumption)⟩
        case measure => simp [RowKit.intOf]; omega
      · go_round
        case rel => exact ⟨k + 1, a, by omega, by omega, by go_num, rfl, by show _ = _; rw [split_miss s k hlt (by assumption)]; exact hh.out⟩
        case measure => simp [RowKit.intOf]; omega
    · have c1 : (0 : Int) ≤ (a : Int) := by omega
      have c2 : (a : Int) ≤ (s.size : Int) := by omega
      have hka : k = s.size := by omega
      have HK := Lib.hid hka
      clear hka
      go_wp2
      go_region
      go_wp2
      go_ret2
      have e : (Pa.lastIndexByte s.data.toList 47 + 1).toNat = a := by
        unfold Pa.lastIndexByte
        rw [← Lib.size_eq, ← HK.out]; exact hh.out
      refine ⟨?_, 1, rfl⟩
      unfold split
      rw [e]
      simp [Pa.extract_from, Pa.extract_upto]

theorem spec_Split_is (s d f : ByteArray) (w : World) (hs : s.size ≤ 9223372036854775807) (hd : S (split s.data.toList).1 = d) (hf : S (split s.data.toList).2 = f) :
    Calls Try.prog 24 #[.string s] w fun e w' => e = .returned (.tuple #[.string d, .string f]) ∧ ∃ n, w' = w.drewN n := by
  subst hd; subst hf; exact spec_Split s w hs

theorem split_sizes (l : List UInt8) : (split l).1.length ≤ l.length ∧ (split l).2.length ≤ l.length := by
  unfold split
  constructor
  · exact List.length_take_le' _ _
  · rw [List.length_drop]; omega

theorem impl_Ext (s r : ByteArray) (w : World) (hs : s.size ≤ 9223372036854775807) (hr : S (ext s.data.toList) = r) : Calls Try.prog 18 #[.string s] w fun e w' => e = .returned (.string r) ∧ w = w' := by
  subst hr
  go_enter Try.func18, Try.ntmps18
  go_wp2_with (go_at_call 28; refine (Try.filepath_Ext _ _ hs).mono ?_; rintro e w' ⟨rfl, rfl⟩)
  go_ret
  exact ⟨rfl, rfl⟩

set_option maxHeartbeats 400000 in
theorem spec_Ext (s r : ByteArray) (w : World) (hs : s.size ≤ 9223372036854775807) (hr : S (ext s.data.toList) = r) :
    Calls Try.prog 19 #[.string s] w fun e w' => e = .returned (.string r) ∧ ∃ n, w' = w.drewN n := by
  obtain ⟨d, hd⟩ : ∃ d, S (split s.data.toList).1 = d := ⟨_, rfl⟩
  obtain ⟨f, hf⟩ : ∃ f, S (split s.data.toList).2 = f := ⟨_, rfl⟩
  have hfs : f.size ≤ 9223372036854775807 := by
    have := (split_sizes s.data.toList).2
    rw [← hf, S_size]; rw [Lib.size_eq] at hs; omega
  rw [M.ext_split, ← S_toList (split s.data.toList).2, hf] at hr
  have HR := Lib.hid hr
  have HD := Lib.hid hd
  have HF := Lib.hid hf
  clear hr hd hf
  go_enter Try.func19, Try.ntmps19
  go_wp2_with fail
  refine (spec_Split_is s d f _ hs HD.out HF.out).mono ?_
  rintro e w' ⟨rfl, n, rfl⟩
  go_wp2
  go_loop [5] (fun vi => ∃ k : Nat, k ≤ f.size ∧ vi = .int .i64 ((k : Int) - 1) ∧ Hid (Pa.lastIdx f.data.toList 46 k = Pa.lastIndexByte f.data.toList 46)) (fun vi => (RowKit.intOf vi + 1).toNat)
  case atStart => exact ⟨f.size, Nat.le_refl _, rfl, by show _ = _; rw [Lib.size_eq]; rfl⟩
  case round =>
    obtain ⟨k, hk, rfl, hh⟩ := hrel
    by_cases h1 : 1 ≤ k
    · have c1 : (1 : Int) ≤ k := by omega
      go_wp2
      · have h46 : (((f[k - 1]'(by omega)).toNat : Int) == ((46 : UInt8).toNat : Int)) = true := by assumption
        go_ret
        refine ⟨?_, n, rfl⟩
        have e : Pa.lastIndexByte f.data.toList 46 = (k : Int) - 1 := by rw [← hh.out, Pa.lastIdx_hit _ 46 k _ h1 (Pa.at_eq f (k - 1) (by omega)) h46]
        have e2 : r = f.extract (k - 1) f.size := by
          rw [← HR.out]
          unfold M.extF
          rw [e, if_pos (by omega), show ((k : Int) - 1).toNat = k - 1 by omega, Pa.extract_from]; rfl
        rw [e2]; rfl
      · have h46 : (((f[k - 1]'(by omega)).toNat : Int) == ((46 : UInt8).toNat : Int)) = false := by assumption
        go_round
        case rel => exact ⟨k - 1, by omega, by first | go_num | (congr 1; omega), (Pa.lastIdx_miss _ 46 k _ h1 (Pa.at_eq f (k - 1) (by omega)) h46).symm.trans hh.out⟩
        case measure => simp [RowKit.intOf]; omega
    · have c1 : k = 0 := by omega
      subst c1
      go_wp2
      go_ret
      refine ⟨?_, n, rfl⟩
      have e : Pa.lastIndexByte f.data.toList 46 = -1 := hh.out.symm
      have e2 : r = ⟨#[]⟩ := by
        rw [← HR.out]
        unfold M.extF
        rw [e]; rfl
      rw [e2]; rfl

end Go.Proofs.Ytkkbbjekiacfeaa
