/- Bytes in memory: a slice that reads as a list of bytes; what is appended to the slice that a string was converted to. -/
import Derived.Lib.FrozenHead2
import Derived.Lib.ConvBytes
import Derived.Lib.BufSteps
import Derived.Lib.BufferRead
import Derived.Lib.AppendIntMem
import Derived.Laws.IdiomStrings
import Derived.Below
namespace Go.Proofs.YtconeignnananaaDoor.Lv
set_option linter.unusedVariables false
set_option linter.unusedSimpArgs false
open Go Go.Lib Go.RowKit

/-- A slice of bytes. -/
def Lies (w : World) (v : Value) (l : List UInt8) : Prop :=
  (l = [] ∧ v = .slice none 0 0) ∨ ∃ g cap, v = .slice (some ⟨g, 0, none⟩) l.length cap ∧ g < w.heap.size ∧ ∀ j (hj : j < l.length), w.cell? ((⟨g, 0, none⟩ : Addr).add j) = some (.int .u8 (l[j].toNat : Int))

theorem add_block (g j : Nat) : ((⟨g, 0, none⟩ : Addr).add j).block = g := by
  unfold Addr.add; split <;> simp_all

theorem Lies.keep {w w' : World} {v : Value} {l : List UInt8} (h : Lies w v l) (hb : Below w.heap.size w w') : Lies w' v l := by
  rcases h with h | ⟨g, cap, e, hg, hc⟩
  · exact .inl h
  · exact .inr ⟨g, cap, e, Nat.lt_of_lt_of_le hg hb.size, fun j hj => (hb.cell (by rw [add_block]; exact hg)).trans (hc j hj)⟩

theorem Lies.convert {P : Program} {w : World} {v : Value} {l : List UInt8} (h : Lies w v l) (src dst e : TypeId) (hs : P.underlying src = some (.slice e)) (he : P.underlying e = some (.int .u8)) (hd : P.underlying dst = some .string) :
    (convert src dst v).run P w = .ok (.string ⟨l.toArray⟩) w := by
  rcases h with ⟨rfl, rfl⟩ | ⟨g, cap, rfl, _, hc⟩
  · exact run_convert_nil_bytes w src dst e 0 hs he hd
  · exact run_convert_bytes_back w src dst e _ cap l hs he hd hc

theorem lies_of_cells {w : World} {g n cap : Nat} {l : List UInt8} (hn : n = l.length) (hg : g < w.heap.size) (h : ∀ j u, (byteCells l)[j]? = some u → w.cell? ((⟨g, 0, none⟩ : Addr).add j) = some u) : Lies w (.slice (some ⟨g, 0, none⟩) n cap) l := by
  subst hn
  exact .inr ⟨g, cap, rfl, hg, fun j hj => h j _ (by simp [byteCells, hj])⟩

theorem lies_of_buf {B : Nat} {e : TypeId} {v : Value} {n : Nat} {l : List UInt8} {W0 w : World} (h : OwnBuf B e v n (byteCells l) W0 w) : Lies w v l := by
  have hl : l.length = n := by have := h.1.1; simpa [byteCells] using this
  rcases h.1.2 with ⟨rfl, h0⟩ | ⟨g, cap, cur, fz, rfl, _, hg, _⟩
  · exact .inl ⟨List.eq_nil_of_length_eq_zero (by omega), rfl⟩
  · exact lies_of_cells hl.symm (Array.getElem?_eq_some_iff.1 hg).1 (h.1.cells (g := g) rfl)

/-- What a string was converted to. -/
theorem lies_conv (w : World) (e : TypeId) (s : ByteArray) (c : Nat) : Lies (bytesWorld w e s) (.slice (some ⟨w.heap.size, 0, none⟩) s.size c) s.data.toList := by
  refine .inr ⟨w.heap.size, c, by rw [size_eq], by rw [bytesWorld_size]; omega, fun j hj => ?_⟩
  have hadd : (⟨w.heap.size, 0, none⟩ : Addr).add j = ⟨w.heap.size, j, none⟩ := by unfold Addr.add; split <;> simp_all
  rw [hadd, bytesWorld_cell w e s j (by rw [size_eq]; exact hj)]
  have hj' : j < s.data.size := by simpa using hj
  rw [List.getD_eq_getElem?_getD, List.getElem?_eq_getElem hj]
  rfl

/-- Cells ahead of the frozen stretch are written. -/
theorem run_storeCells_tail (P : Program) (g o : Nat) (t : TypeId) (fz : Nat × Nat) : ∀ (vs : List Value) (i : Nat) (cur : Array Value) (w : World), w.heap[g]? = some (.cells cur t fz) → cur.size ≤ fz.1 → o + i + vs.length ≤ cur.size → (∀ v ∈ vs, v.oneCell' = true) →
    (storeCells ⟨g, o, none⟩ vs i).run P w = .ok () (w.setRow g (cur.toList.take (o + i) ++ vs ++ cur.toList.drop (o + i + vs.length)).toArray)
  | [], i, cur, w, hg, _, _, _ => by
    simp only [storeCells, List.append_nil, List.length_nil, Nat.add_zero, List.take_append_drop, Array.toArray_toList]
    rw [setRow_self w g cur t fz hg]
    rfl
  | v :: rest, i, cur, w, hg, hfz, hl, h1 => by
    have hi : o + i < cur.size := by simp at hl; omega
    have hadd : (⟨g, o, none⟩ : Addr).add i = ⟨g, o + i, none⟩ := by unfold Addr.add; split <;> simp_all
    have hcell : w.cell? ⟨g, o + i, none⟩ = some cur[o + i] := by simp [World.cell?, hg, hi]
    have hfro : w.frozen? ⟨g, o + i, none⟩ = false := by
      obtain ⟨lo, hi'⟩ := fz
      simp only [World.frozen?, hg, Bool.and_eq_false_iff, decide_eq_false_iff_not]
      left
      simp only at hfz
      omega
    have hst : (store ((⟨g, o, none⟩ : Addr).add i) v).run P w = .ok () (w.setRow g (cur.setIfInBounds (o + i) v)) := by
      rw [hadd, run_store P w _ v _ (h1 v (by simp)), hcell]
      simp [hfro, setCell_eq_setRow w g (o + i) cur t fz v hg]
    have ih := run_storeCells_tail P g o t fz rest (i + 1) (cur.setIfInBounds (o + i) v) (w.setRow g (cur.setIfInBounds (o + i) v)) (setRow_heap w g cur _ t _ hg) (by simpa using hfz) (by simp at hl ⊢; omega) (fun x hx => h1 x (by simp [hx]))
    simp only [storeCells, Sem.run_bind, hst, Result.andThen_ok, ih, setRow_setRow]
    congr 3
    have e := list_seg_step cur.toList (o + i) v rest (by simp at hl ⊢; omega)
    simpa [Array.toList_setIfInBounds, Nat.add_assoc] using e

section
variable {P : Program} (w : World)

theorem run_append_tail (t u ty e : TypeId) (i : TypeInfo) (ht : P.underlying t = some (.slice e)) (hu : P.underlying u = some .string) (hi : P.info? e = some i) (hz : i.zero = some (.int .u8 0))
    (hsize : i.size = 1) (hby : i.bytes = 1) (g n cap : Nat) (cur : Array Value) (fz : Nat × Nat) (hg : w.heap[g]? = some (.cells cur e fz)) (hfz : cur.size ≤ fz.1) (hcs : cur.size = cap) (hnc : n ≤ cap) (hcm : cap ≤ maxLen)
    (xs : List Value) (htake : cur.toList.take n = xs) (s : ByteArray) (h63 : n + s.size ≤ maxLen) (hbytes : n + s.size ≤ 140737488355328) :
    ∃ g' cap' w', (Builtin.append_ #[t, u] ty #[.slice (some ⟨g, 0, none⟩) n cap, .string s]).run P w = .ok (.slice (some ⟨g', 0, none⟩) (n + s.size) cap') w' ∧ g' < w'.heap.size ∧
      (∀ j u, (xs ++ strCells s)[j]? = some u → w'.cell? ((⟨g', 0, none⟩ : Addr).add j) = some u) ∧ w.grownBy w' (some g) := by
  have hxl : xs.length = n := by rw [← htake, List.length_take, Array.length_toList]; omega
  have hlen : (xs ++ strCells s).length = n + s.size := by rw [List.length_append, hxl, strCells_length]
  have hgl : g < w.heap.size := (Array.getElem?_eq_some_iff.1 hg).1
  by_cases hroom : n + s.size ≤ cap
  · have hf := run_firstCells_string (P := P) w 1 s
    have hst := run_storeCells_tail P g n e fz (strCells s) 0 cur w hg hfz (by simp [strCells_length]; omega) (strCells_oneCell s)
    simp only [Nat.add_zero, strCells_length] at hst
    refine ⟨g, cap, w.setRow g (cur.toList.take n ++ strCells s ++ cur.toList.drop (n + s.size)).toArray, ?_, ?_, ?_, ?_⟩
    · simp [Builtin.append_, run_underlying ht, run_underlying hu, sizeOf, typeInfo, hi, hsize, Builtin.lenOf, hroom, hf, Addr.add_lit, hst]
    · simpa using hgl
    · intro j v hj
      have hjl : j < (xs ++ strCells s).length := (List.getElem?_eq_some_iff.1 hj).1
      refine cells_of_row (setRow_heap w g cur _ e _ hg) (n + s.size) j v ?_
      rw [htake]
      simp only []
      rw [List.take_append_of_le_length (by rw [hlen]; omega), ← hlen, List.take_length]
      exact hj
    · exact ⟨rfl, rfl, rfl, by simp, fun k _ hk => setRow_other w g k _ (fun e => hk (by rw [e]))⟩
  · have holds : ∀ j u, xs[j]? = some u → w.cell? ((⟨g, 0, none⟩ : Addr).add j) = some u := fun j u hj => cells_of_row hg n j u (by rw [htake]; exact hj)
    have hsm : n + s.size ≤ 9223372036854775807 := by omega
    have hr := run_append_grow_string (P := P) w t u ty e i (.int .u8 0) ht hu hi hz ⟨g, 0, none⟩ n cap xs (by rw [hsize]; simpa using hxl) holds s (by omega) (by omega) (by rw [hby]; exact growslice_fits (by omega) (by omega))
    refine ⟨_, _, _, hr, ?_, ?_, ⟨rfl, rfl, rfl, by simp, fun k hk _ => heap_alloc_old w.drew _ k hk⟩⟩
    · simp
    · intro j v hj
      refine cells_of_row (heap_alloc_new w.drew _) (n + s.size) j v ?_
      simp only [Array.toList_append, List.append_assoc]
      rw [← List.append_assoc, ← hlen, List.take_left]
      exact hj

theorem wpList_append_tail {ops : Array Oper} {rest : List Oper} {o : Oper} {a : Act} {Q : Exit → Act → World → Prop} (hgd : o.guard = none) (sl x : Operand) (t u : TypeId)
    (ho : o.op = .call { callee := .builtin .append, args := #[sl, x], argTypes := #[t, u] })
    (e : TypeId) (i : TypeInfo) (ht : P.underlying t = some (.slice e)) (hu : P.underlying u = some .string) (hi : P.info? e = some i) (hz : i.zero = some (.int .u8 0))
    (hsize : i.size = 1) (hby : i.bytes = 1) (g n cap : Nat) (cur : Array Value) (fz : Nat × Nat) (hg : w.heap[g]? = some (.cells cur e fz)) (hfz : cur.size ≤ fz.1) (hcs : cur.size = cap) (hnc : n ≤ cap) (hcm : cap ≤ maxLen)
    (xs : List Value) (htake : cur.toList.take n = xs) (hs : a.eval sl = .slice (some ⟨g, 0, none⟩) n cap) (s : ByteArray) (hx : a.eval x = .string s) (h63 : n + s.size ≤ maxLen) (hbytes : n + s.size ≤ 140737488355328)
    (h : ∀ g' cap' w', g' < w'.heap.size → (∀ j u, (xs ++ strCells s)[j]? = some u → w'.cell? ((⟨g', 0, none⟩ : Addr).add j) = some u) → w.grownBy w' (some g) → wpList P ops Q rest (a.put o.dst (.slice (some ⟨g', 0, none⟩) (n + s.size) cap')) w') : wpList P ops Q (o :: rest) a w := by
  refine wpList_plain hgd fun K hK => ?_
  obtain ⟨g', cap', w', hr, h1, h2, h3⟩ := run_append_tail (P := P) w t u o.type e i ht hu hi hz hsize hby g n cap cur fz hg hfz hcs hnc hcm xs htake s h63 hbytes
  unfold Oper.wp execOp
  simp only [ho, resolve, invoke, builtin, Sem.run_bind, Sem.run_pure, Result.andThen_ok, List.map_toArray, List.map_cons, List.map_nil, hs, hx, hr]
  exact hK _ _ (h g' cap' w' h1 h2 h3)
end

end Go.Proofs.YtconeignnananaaDoor.Lv
