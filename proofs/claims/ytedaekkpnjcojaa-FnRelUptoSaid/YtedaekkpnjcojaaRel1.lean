/-
  For filepath.Rel: the small functions that it calls; a row of bytes that the call made: a store, a copy of a text, what it reads as.
-/
import Derived.Test.YtedaekkpnjcojaaWords
import Derived.Test.YtedaekkpnjcojaaRelMath
import Derived.Lib.LazyBuf
import Derived.Lib.Bytealg
import Derived.Laws.BytesArg
import Derived.Laws.Externs
import Derived.Deep.OwnRows
import Derived.Deep.QuietTactic
import Derived.BigQuiet
namespace Go.Proofs.Ytedaekkpnjcojaa
open Go.RowKit Go.Lib
open Go.Lib.Pa (clean isAbs split ext base dir els)

theorem sameWord_is (a b : ByteArray) (r : Bool) (w : World) (h : (a.toList == b.toList) = r) : Calls Try.prog 41 #[.string a, .string b] w fun e w' => e = .returned (.bool r) ∧ w' = w := by
  have H := Lib.hid h
  clear h
  go_enter Try.func41, Try.ntmps41
  go_wp2
  go_ret
  exact ⟨by rw [← H.out]; rfl, rfl⟩

theorem vol_name (s : ByteArray) (w : World) : Calls Try.prog 40 #[.string s] w fun e w' => e = .returned (.string ⟨#[]⟩) ∧ w = w' := by
  go_enter Try.func40, Try.ntmps40
  go_wp2_with fail
  refine (Try.filepathlite_VolumeName s _).mono ?_
  rintro e w' ⟨rfl, rfl⟩
  go_wp2
  go_ret
  exact ⟨rfl, rfl⟩

theorem errors_New (m : ByteArray) (w : World) : Calls Try.prog 43 #[.string m] w fun e w' => ∃ t v, e = .returned (.iface t v) ∧ Below w.heap.size w w' := by
  go_enter Try.func43, Try.ntmps43
  go_wp2
  go_ret
  exact ⟨_, _, rfl, (Below.refl _ _).alloc (Nat.le_refl _) _⟩

theorem count_run (x : ByteArray) (W : World) : (callFunc 44 #[.string x, .int .u8 47]).run Try.prog W = .ok (.value (.int .i64 (Lib.countByte x.data.toList 47))) W := by
  rw [run_callFunc_extern Try.func44 (by kernel_rfl) (by kernel_rfl) (by kernel_rfl) (e := Extern.BytealgCount.count) (by kernel_rfl), Lib.run_countString]
  rfl

theorem clean_call (s r : ByteArray) (w : World) (hs : s.size ≤ 281474976710656) (hr : S (clean s.data.toList) = r) : Calls Try.prog 34 #[.string s] w fun e w' => e = .returned (.string r) ∧ Below w.heap.size w w' := by
  subst hr; exact Try.filepath_Clean s w hs

/-- block g is a row that holds these bytes -/
def Buf (w : World) (g : Nat) (c : List UInt8) : Prop := w.rowIs g 5 c.length (Lz.bytes c)

theorem u8_info : (Try.prog.info? 5).map (fun i => (i.zero, i.size, i.bytes)) = some (some (Value.int IntKind.u8 0), 1, 1) := by kernel_rfl
theorem u8_size (w : World) : (Go.sizeOf 5).run Try.prog w = .ok 1 w := by kernel_rfl

theorem Buf.made (w : World) (n : Nat) : Buf (w.alloc (.cells (madeCells #[.int .u8 0] n) 5)) w.heap.size (List.replicate n 0) := by
  unfold Buf
  rw [List.length_replicate]
  refine (World.rowIs_made w (.int .u8 0) n 5).congr fun i hi => ?_
  unfold Lz.bytes
  rw [List.getElem?_replicate, if_pos hi]
  rfl

/-- what a copy of bytes into a row leaves -/
def over (c : List UInt8) (off : Nat) (l : List UInt8) : List UInt8 := c.take off ++ (l ++ c.drop (off + l.length))
theorem over_len {c l : List UInt8} {off : Nat} (h : off + l.length ≤ c.length) : (over c off l).length = c.length := by
  unfold over; rw [List.length_append, List.length_append, List.length_take, List.length_drop]; omega
theorem over_get {c l : List UInt8} {off : Nat} (h : off + l.length ≤ c.length) (j : Nat) : (over c off l)[j]? = if off ≤ j ∧ j < off + l.length then l[j - off]? else c[j]? := by
  unfold over
  have ht : (c.take off).length = off := by rw [List.length_take]; omega
  by_cases h1 : j < off
  · rw [List.getElem?_append_left (by omega), List.getElem?_take, if_pos h1, if_neg (by omega)]
  · rw [List.getElem?_append_right (by omega), ht]
    by_cases h2 : j - off < l.length
    · rw [List.getElem?_append_left h2, if_pos (by omega)]
    · rw [List.getElem?_append_right (by omega), List.getElem?_drop, if_neg (by omega)]
      congr 1; omega

theorem Buf.stored {w : World} {g : Nat} {c : List UInt8} (h : Buf w g c) (n : Nat) (x : UInt8) (hn : n < c.length) : Buf (w.setCell ⟨g, n, none⟩ (.int .u8 (x.toNat : Int))) g (over c n [x]) := by
  unfold Buf at h ⊢
  rw [over_len (by simp; omega)]
  refine (h.set n (.int .u8 (x.toNat : Int))).congr fun j hj => ?_
  unfold Lz.bytes
  rw [over_get (by simp; omega)]
  by_cases e : j = n
  · subst e; simp
  · rw [if_neg e, if_neg (by simp; omega)]

theorem Buf.copied {w : World} {g : Nat} {c : List UInt8} (h : Buf w g c) (off : Nat) (l : List UInt8) (hf : off + l.length ≤ c.length) : Buf (w.setCells g off (l.map fun x => Value.int .u8 (x.toNat : Int))) g (over c off l) := by
  unfold Buf at h ⊢
  rw [over_len hf]
  refine (rowIs_setCells _ off w _ h).congr fun j hj => ?_
  unfold Lz.bytes
  rw [over_get hf, List.length_map]
  by_cases e : off ≤ j ∧ j < off + l.length
  · rw [if_pos e, if_pos e, List.getElem?_map]
    rw [List.getElem?_eq_getElem (by omega)]
    rfl
  · rw [if_neg e, if_neg e]

theorem Buf.cell {w : World} {g : Nat} {c : List UInt8} (h : Buf w g c) {n : Nat} (hn : n < c.length) : w.cell? ⟨g, n, none⟩ = some (.int .u8 ((c[n]?.getD 0).toNat : Int)) := World.rowIs.cell h hn
theorem Buf.frozen {w : World} {g : Nat} {c : List UInt8} (h : Buf w g c) (n : Nat) : w.frozen? ⟨g, n, none⟩ = false := World.rowIs.frozen h n
theorem Buf.text {w : World} {g : Nat} {c : List UInt8} (h : Buf w g c) (cap : Nat) : (convert 45 9 (.slice (some ⟨g, 0, none⟩) c.length cap)).run Try.prog w = .ok (.string (S c)) w := by
  have := run_convert_bytes_arg (P := Try.prog) w 45 5 Try.underlying45 Try.underlying5 g 0 c.length cap (c.map fun b => (b.toNat : Int)) (by simp) (fun j hj => by
    rw [Nat.zero_add, h.cell hj, Lz.getD_map]) 9 Try.underlying9
  rw [Lz.strOfNums_map] at this
  exact this

/-- copy(dst, text) into such a row, as one operation -/
theorem wpList_copy_buf {w : World} {ops : Array Oper} {rest : List Oper} {o : Oper} {a : Act} {Q : Exit → Act → World → Prop} (hgd : o.guard = none) (d x : Operand)
    (ho : o.op = .call { callee := .builtin .copy, args := #[d, x], argTypes := #[45, 9] })
    (g off dLen dCap : Nat) (hd : a.eval d = .slice (some ⟨g, off, none⟩) dLen dCap) (t : ByteArray) (hx : a.eval x = .string t) (hle : t.size ≤ dLen)
    (c : List UInt8) (hb : Buf w g c) (hf : off + t.data.toList.length ≤ c.length) (B : Nat) (w0 : World) (hB : Below B w0 w) (hBg : B ≤ g)
    (h : ∀ w', Buf w' g (over c off t.data.toList) → Below B w0 w' → wpList Try.prog ops Q rest (a.put o.dst (goInt t.size)) w') : wpList Try.prog ops Q (o :: rest) a w := by
  refine wpList_plain hgd fun K hK => ?_
  have hsz := Lib.size_eq t
  have hrun := run_copy_string (P := Try.prog) w 45 9 o.type 5 g off dLen dCap t Try.underlying45 u8_size hle (fun j hj => by rw [hb.cell (by omega)]; rfl) (fun j hj => hb.frozen _)
  unfold Oper.wp
  simp [execOp, ho, resolve, invoke, builtin, hd, hx, hrun, Result.andThen]
  exact hK _ _ (h _ (hb.copied off _ hf) (below_setCells hBg _ _ _ hB))

theorem step_copy_buf {ops : Array Oper} {o : Oper} {a : Act} {w : World} {K : Act → World → Prop} {Q : Exit → Act → World → Prop} {E : Prop} (hgd : o.guard = none) (d x : Operand)
    (ho : o.op = .call { callee := .builtin .copy, args := #[d, x], argTypes := #[45, 9] })
    (g off dLen dCap : Nat) (hd : a.eval d = .slice (some ⟨g, off, none⟩) dLen dCap) (t : ByteArray) (hx : a.eval x = .string t) (hle : t.size ≤ dLen)
    (c : List UInt8) (hb : Buf w g c) (hf : off + t.data.toList.length ≤ c.length) (B : Nat) (w0 : World) (hB : Below B w0 w) (hBg : B ≤ g)
    (h : ∀ w', Buf w' g (over c off t.data.toList) → Below B w0 w' → K (a.put o.dst (goInt t.size)) w') :
    if Region.wanted o (yielded ops a.tmps) = true then Oper.wp Try.prog o a w K Q else E := by
  have hsz := Lib.size_eq t
  exact step_copy_string hgd d x 45 9 ho 5 Try.underlying45 u8_size g off dLen dCap hd t hx hle (fun j hj => by rw [hb.cell (by omega)]; rfl) (fun j hj => hb.frozen _) (h _ (hb.copied off _ hf) (below_setCells hBg _ _ _ hB))

theorem over_take {c l D : List UInt8} {n : Nat} (h : c.take n = D) (hl : n + l.length ≤ c.length) : (over c n l).take (n + l.length) = D ++ l := by
  unfold over
  have ht : (c.take n).length = n := by rw [List.length_take]; omega
  rw [← List.append_assoc, List.take_append_of_le_length (by rw [List.length_append, ht]; exact Nat.le_refl _), List.take_of_length_le (by rw [List.length_append, ht]; exact Nat.le_refl _), h]

/-- the row while the dots are written: j times more, nn bytes of it -/
def UpAt (w : World) (g sz : Nat) (c : List UInt8) (nn j : Nat) : Prop := Buf w g c ∧ c.length = sz ∧ c.take nn = M.dots j

theorem up_start {w : World} {g : Nat} (sz : Nat) (h : 2 ≤ sz) (hb : Buf w g (over (List.replicate sz 0) 0 (⟨#[46, 46]⟩ : ByteArray).data.toList)) : UpAt w g sz (over (List.replicate sz 0) 0 (⟨#[46, 46]⟩ : ByteArray).data.toList) 2 0 := by
  have hf : 0 + (⟨#[46, 46]⟩ : ByteArray).data.toList.length ≤ (List.replicate sz (0 : UInt8)).length := by rw [List.length_replicate]; show 2 ≤ sz; omega
  refine ⟨hb, by rw [over_len hf, List.length_replicate], ?_⟩
  exact over_take (D := []) rfl hf
theorem up_round {w : World} {g sz : Nat} {c : List UInt8} {nn j : Nat} (h : UpAt w g sz c nn j) (hn : nn + 3 ≤ sz) :
    ∀ w6, Buf w6 g (over (over c nn [47]) (nn + 1) (⟨#[46, 46]⟩ : ByteArray).data.toList) → UpAt w6 g sz (over (over c nn [47]) (nn + 1) (⟨#[46, 46]⟩ : ByteArray).data.toList) (nn + 3) (j + 1) := by
  intro w6 hb
  obtain ⟨_, hl, ht⟩ := h
  have h1 : nn + [(47 : UInt8)].length ≤ c.length := by rw [hl]; simp; omega
  have h2 : nn + 1 + (⟨#[46, 46]⟩ : ByteArray).data.toList.length ≤ (over c nn [47]).length := by rw [over_len h1, hl]; show nn + 1 + 2 ≤ sz; omega
  refine ⟨hb, by rw [over_len h2, over_len h1, hl], ?_⟩
  have e1 := over_take ht h1
  have e2 := over_take e1 h2
  rw [M.dots]
  rw [List.append_assoc] at e2
  exact e2
theorem up_end {w : World} {g sz : Nat} {c Y : List UInt8} {nn j : Nat} (h : UpAt w g sz c nn j) (hn : nn + 1 + Y.length = sz) :
    over (over c nn [47]) (nn + 1) Y = M.dots j ++ 47 :: Y ∧ (over (over c nn [47]) (nn + 1) Y).length = sz := by
  obtain ⟨_, hl, ht⟩ := h
  have h1 : nn + [(47 : UInt8)].length ≤ c.length := by rw [hl]; simp; omega
  have h2 : nn + 1 + Y.length ≤ (over c nn [47]).length := by rw [over_len h1, hl]; omega
  have hlen : (over (over c nn [47]) (nn + 1) Y).length = sz := by rw [over_len h2, over_len h1, hl]
  refine ⟨?_, hlen⟩
  have e1 := over_take ht h1
  have e2 := over_take e1 h2
  have e3 : (over (over c nn [47]) (nn + 1) Y).take (nn + [(47 : UInt8)].length + Y.length) = over (over c nn [47]) (nn + 1) Y := List.take_of_length_le (by rw [hlen]; show sz ≤ nn + 1 + Y.length; omega)
  rw [List.append_assoc] at e2
  exact e3.symm.trans e2
theorem Buf.drew {w : World} {g : Nat} {c : List UInt8} (h : Buf w g c) : Buf w.drew g c := h

end Go.Proofs.Ytedaekkpnjcojaa
