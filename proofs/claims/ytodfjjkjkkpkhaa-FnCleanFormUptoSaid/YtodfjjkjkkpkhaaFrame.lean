/-
  The row's last step where the call leaves a world of which 'Below' alone is known; what the bounds give.
-/
import Derived.Test.YtodfjjkjkkpkhaaRows
import Derived.ProofKit
import Derived.SizedLaws
import Derived.Below
import Derived.ChangeSame
import Derived.Lib.Strings
namespace Go.Proofs.Ytodfjjkjkkpkhaa
open Go.ChangeShapes Go.WideShapes Go.ChangeAt Go.RowKit

theorem size_reach {a : ByteArray} (h : a.data.toList.length ≤ reachBytes) : a.size ≤ 140737488351232 := by
  rw [Lib.size_eq]; exact h

section
variable {H : Type} {enc : TypeId × Value → H} {P : Program}
theorem post_of_below {f : Func} {s : ChangeSpec} {apart fresh handsOn again : Bool} {W W' : World} {args : Array Value} {v : Value} {ds gs : List (DataW H)} {before pa pv : List MemPlace}
    (hW : DataW.Whole enc P f.params.toList s.vars apart W args.toList ds gs before)
    (hres : ∀ (b : Nat) (sp : Nat → Bool) (hd : Bool), DataW.TrodAll enc P W' b sp hd f.resultTypes.toList (v.resultList f.resultTypes.size) (s.fn H (ds ++ gs)).results [])
    (hargs : ∀ sp : Nat → Bool, (∀ p ∈ before, sp p.block = true) → DataW.TrodAll enc P W' 0 sp true f.params.toList args.toList (s.fn H (ds ++ gs)).args pa)
    (hvars : ∀ sp : Nat → Bool, (∀ p ∈ before, sp p.block = true) → DataW.TrodVars enc P W' sp s.vars (s.fn H (ds ++ gs)).vars pv)
    (hps : before = pa ++ pv) (hb : Below W.heap.size W W')
    (hok : ∀ (j : Nat) (t : TypeId) (r : Value), f.resultTypes[j]? = some t → (v.resultList f.resultTypes.size)[j]? = some r → Value.okWide P W' .any 0 t r) :
    s.post enc P f apart fresh handsOn again W args v W' := by
  have hlt : ∀ p ∈ before, p.block < W.heap.size := fun p hp => hW.lt p hp
  have hold : ∀ p ∈ before, (fun b => decide (b < W.heap.size)) p.block = true := fun p hp => by simpa using hlt p hp
  refine ⟨ds, gs, before, [], pa, pv, hW, hres _ _ _, hargs _ hold, hvars _ hold, World.keptBut_mono (fun p hp => ⟨hp, ?_⟩) (hb.frame (· ∈ before)), fun _ => ?_⟩
  · rw [hps, List.mem_append] at hp
    exact Or.inr hp
  · obtain ⟨_, _, _, _, _, hz, hn⟩ := hW
    refine ⟨hok, _, _, ([] ++ pa) ++ pv, ⟨[] ++ pa, pv, trodAll_append (hargs _ (fun _ _ => rfl)) (hres _ _ _), hvars _ (fun _ _ => rfl), rfl, ?_, ?_⟩, ?_⟩
    · intro b off hp
      have hin : MemPlace.cell b off ∈ before := by rw [hps]; simpa using hp
      rw [hb.frozen (hlt _ hin)]
      exact hz b off hin
    · intro ha
      have := hn ha
      rw [hps] at this
      simpa using this
    · intro p hp _
      rw [hps]
      simpa using hp
end

/-- what the second form's bound gives -/
theorem bulk_one {H : Type} {a : ByteArray} (hk : Rows.uptoSmall H [.lit (.string a.data.toList)] = true) : a.size ≤ 1048576 := by
  have h : Rows.uptoBulkAll [DataW.lit (H := H) (.string a.data.toList)] ≤ 1048576 := of_decide_eq_true hk
  simp only [Rows.uptoBulkAll, Rows.uptoBulk] at h
  rw [Lib.size_eq]; omega
theorem bulk_two {H : Type} {a b : ByteArray} (hk : Rows.uptoSmall H [.lit (.string a.data.toList), .lit (.string b.data.toList)] = true) : a.size + b.size ≤ 1048576 := by
  have h : Rows.uptoBulkAll [DataW.lit (H := H) (.string a.data.toList), DataW.lit (.string b.data.toList)] ≤ 1048576 := of_decide_eq_true hk
  simp only [Rows.uptoBulkAll, Rows.uptoBulk] at h
  rw [Lib.size_eq, Lib.size_eq]; omega
theorem bulk_three {H : Type} {a b c : ByteArray} (hk : Rows.uptoSmall H [.lit (.string a.data.toList), .lit (.string b.data.toList), .lit (.string c.data.toList)] = true) : a.size + b.size + c.size ≤ 1048576 := by
  have h : Rows.uptoBulkAll [DataW.lit (H := H) (.string a.data.toList), DataW.lit (.string b.data.toList), DataW.lit (.string c.data.toList)] ≤ 1048576 := of_decide_eq_true hk
  simp only [Rows.uptoBulkAll, Rows.uptoBulk] at h
  rw [Lib.size_eq, Lib.size_eq, Lib.size_eq]; omega

end Go.Proofs.Ytodfjjkjkkpkhaa
