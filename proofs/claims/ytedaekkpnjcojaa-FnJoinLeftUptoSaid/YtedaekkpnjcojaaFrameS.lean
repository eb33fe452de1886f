/-
  A row of texts that came in, opened as a list of texts; what the bound says of it.
-/
import Derived.Test.YtedaekkpnjcojaaFrame
import Derived.Test.YtedaekkpnjcojaaWords
import Derived.SliceStrings
import Derived.ProofKit
import Derived.Carry
namespace Go.Proofs.Ytedaekkpnjcojaa
open Go.ChangeShapes Go.WideShapes Go.ChangeAt Go.RowKit Go.Lib

theorem laidOut : laidOutB Try.prog = true := by kernel_rfl
theorem cellsStr : Try.prog.cellsOf 9 = 1 := by kernel_rfl

theorem bulk_strs {H : Type} (ss : List ByteArray) : Rows.uptoBulkAll (strs (H := H) ss) = M.wt (ss.map (·.data.toList)) := by
  induction ss with
  | nil => rfl
  | cons x r ih =>
    rw [List.map_cons, M.wt_cons, ← ih]
    simp only [strs, List.map_cons, Rows.uptoBulkAll, Rows.uptoBulk]

theorem cell_lt {w : World} {a : Addr} {v : Value} (h : w.cell? a = some v) : a.block < w.heap.size := by
  by_cases hlt : a.block < w.heap.size
  · exact hlt
  · have hn : w.heap[a.block]? = none := by simp; omega
    simp [World.cell?, hn] at h

theorem open_words {H : Type} {enc : TypeId × Value → H} {W : World} {base : Nat} {v : Value} {d : DataW H} {ps : List MemPlace}
    (hval : Value.okWide Try.prog W .any base 24 v) (h : DataW.Trod enc Try.prog W 0 (fun _ => true) true 24 v d ps) :
    ∃ L : List (List UInt8), Rd W v L ∧ M.wt L ≤ Rows.uptoBulk d := by
  obtain ⟨a0, len, cap, rfl⟩ := okWide_slice Try.underlying24 hval
  obtain ⟨fuel, hf⟩ := h
  rcases open_strings Try.underlying24 Try.underlying9 cellsStr hf with ⟨hcs, hx⟩ | ⟨a, len', cap', ss, hcs, _, hl, hm, hz, hx, hcell, hsz⟩
  · simp [Value.cells] at hcs
    obtain ⟨rfl, rfl, rfl⟩ := hcs
    exact ⟨[], ⟨none, 0, rfl, Nat.le_refl _, Reads.none_⟩, Nat.zero_le _⟩
  · simp [Value.cells] at hcs
    obtain ⟨rfl, rfl, rfl⟩ := hcs
    simp only [Prod.mk.injEq] at hx
    obtain ⟨rfl, _⟩ := hx
    simp only [if_true] at hz
    have hlen : ((ss.take len).map (·.data.toList)).length = len := by rw [List.length_map, List.length_take]; omega
    refine ⟨(ss.take len).map (·.data.toList), ⟨some a, cap, by rw [hlen], by rw [hlen]; exact hl, ?_⟩, ?_⟩
    · refine ⟨by simp [vals], fun h0 => ⟨a, rfl, ?_, fun j u hu => ?_⟩⟩
      · have := cell_lt (hcell 0 (by omega))
        rw [block_of_add] at this; exact this
      · have hj : j < len := by
          have := (List.getElem?_eq_some_iff.1 hu).1
          simp [vals] at this; omega
        have hg : ss[j]? = some (ss[j]'(by omega)) := List.getElem?_eq_getElem _
        have h1 := hcell j (by omega)
        have e : ss.getD j ByteArray.empty = ss[j]'(by omega) := by rw [List.getD, hg]; rfl
        rw [e] at h1
        rw [h1]
        unfold vals at hu
        rw [List.getElem?_map, List.getElem?_map, List.getElem?_take, if_pos hj, hg] at hu
        simpa [S_data] using hu
    · rw [← bulk_strs]
      simp only [Rows.uptoBulk]; omega

theorem words_back {H : Type} {enc : TypeId × Value → H} {W W' : World} {v : Value} {d : DataW H} {ps : List MemPlace} {sp : Nat → Bool}
    (h : DataW.Trod enc Try.prog W 0 (fun _ => true) true 24 v d ps) (hb : Below W.heap.size W W') (hlt : ∀ x ∈ ps, x.block < W.heap.size) (hs : ∀ x ∈ ps, sp x.block = true) :
    DataW.Trod enc Try.prog W' 0 sp true 24 v d ps :=
  WideElems.Trod_stays laidOut (by kernel_rfl) (of_decide_eq_true (by kernel_rfl)) h (fun x hx => hb.same (hlt x hx)) hs

theorem bulk_list {H : Type} {d : DataW H} (hk : Rows.uptoSmall H [d] = true) : Rows.uptoBulk d ≤ 1048576 := by
  have h : Rows.uptoBulkAll [d] ≤ 1048576 := of_decide_eq_true hk
  simp only [Rows.uptoBulkAll] at h
  omega
theorem bulk_list_int {H : Type} {d e : DataW H} (hk : Rows.uptoSmall H [d, e] = true) : Rows.uptoBulk d ≤ 1048576 := by
  have h : Rows.uptoBulkAll [d, e] ≤ 1048576 := of_decide_eq_true hk
  simp only [Rows.uptoBulkAll] at h
  omega

end Go.Proofs.Ytedaekkpnjcojaa
