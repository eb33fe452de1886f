/-
  Contracts of spec.Split, spec.Ext and spec.Base, for every string: they return what the library's own functions return.
-/
import Derived.Test.YtodfjjkjkkpkhaaBasic
import Derived.Test.YtodfjjkjkkpkhaaParts
import Derived.RegionTactic
import Derived.Deep.Draws
namespace Go.Proofs.Ytodfjjkjkkpkhaa
open Go.RowKit Go.Lib
open Go.Lib.Pa (clean isAbs split ext base dir)

theorem lastIdx_succ (l : List UInt8) (c : UInt8) (k : Nat) : Pa.lastIdx l c (k + 1) = if l[k]? = some c then (k : Int) else Pa.lastIdx l c k := rfl

theorem split_hit (s : ByteArray) (k : Nat) (h : k < s.size) (ht : (((s[k]'h).toNat : Int) == 47) = true) : (Pa.lastIdx s.data.toList 47 (k + 1) + 1).toNat = k + 1 := by
  have e := Pa.at_eq s k h
  rw [Pa.beq47, beq_iff_eq] at ht
  rw [lastIdx_succ, e, ht, if_pos rfl]; omega
theorem split_miss (s : ByteArray) (k : Nat) (h : k < s.size) (ht : (((s[k]'h).toNat : Int) == 47) = false) : Pa.lastIdx s.data.toList 47 (k + 1) = Pa.lastIdx s.data.toList 47 k := by
  have e := Pa.at_eq s k h
  rw [Pa.beq47, beq_eq_false_iff_ne] at ht
  rw [lastIdx_succ, e, if_neg (fun x => ht (Option.some.inj x))]

set_option maxHeartbeats 400000 in
theorem spec_Split (s : ByteArray) (w : World) (hs : s.size ≤ 9223372036854775807) :
    Calls Try.prog 28 #[.string s] w fun e w' => e = .returned (.tuple #[.string ⟨(split s.data.toList).1.toArray⟩, .string ⟨(split s.data.toList).2.toArray⟩]) ∧ ∃ n, w' = w.drewN n := by
  go_enter Try.func28, Try.ntmps28
  go_wp2
  go_loop [4, 5] (fun at' i => ∃ k a : Nat, k ≤ s.size ∧ a ≤ k ∧ i = .int .i64 k ∧ at' = .int .i64 a ∧ Hid ((Pa.lastIdx s.data.toList 47 k + 1).toNat = a)) (fun _ i => s.size - (RowKit.intOf i).toNat)
  case atStart => exact ⟨0, 0, Nat.zero_le _, Nat.le_refl _, rfl, rfl, by show _ = _; rfl⟩
  case round =>
    obtain ⟨k, a, hk, ha, rfl, rfl, hh⟩ := hrel
    by_cases hlt : k < s.size
    · go_wp2
      · go_round
        case rel => exact ⟨k + 1, k + 1, by omega, by omega, by go_num, by go_num, split_hit s k hlt (by assumption)⟩
        case measure => simp [RowKit.intOf]; omega
      · go_round
        case rel => exact ⟨k + 1, a, by omega, by omega, by go_num, rfl, by show _ = _; rw [split_miss s k hlt (by assumption)]; exact hh.out⟩
        case measure => simp [RowKit.intOf]; omega
    · have c1 : (0 : Int) ≤ (a : Int) := by omega
      have c2 : (a : Int) ≤ (s.size : Int) := by omega
      have hka : k = s.size := by omega
      have HK := Lib.hid hka
      clear hka
      go_wp2
      go_region
      go_wp2
      go_ret2
      have e : (Pa.lastIndexByte s.data.toList 47 + 1).toNat = a := by
        unfold Pa.lastIndexByte
        rw [← Lib.size_eq, ← HK.out]; exact hh.out
      refine ⟨?_, 1, rfl⟩
      unfold split
      rw [e]
      simp [Pa.extract_from, Pa.extract_upto]

theorem spec_Split_is (s d f : ByteArray) (w : World) (hs : s.size ≤ 9223372036854775807) (hd : S (split s.data.toList).1 = d) (hf : S (split s.data.toList).2 = f) :
    Calls Try.prog 28 #[.string s] w fun e w' => e = .returned (.tuple #[.string d, .string f]) ∧ ∃ n, w' = w.drewN n := by
  subst hd; subst hf; exact spec_Split s w hs

theorem split_sizes (l : List UInt8) : (split l).1.length ≤ l.length ∧ (split l).2.length ≤ l.length := by
  unfold split
  constructor
  · exact List.length_take_le' _ _
  · rw [List.length_drop]; omega



end Go.Proofs.Ytodfjjkjkkpkhaa
