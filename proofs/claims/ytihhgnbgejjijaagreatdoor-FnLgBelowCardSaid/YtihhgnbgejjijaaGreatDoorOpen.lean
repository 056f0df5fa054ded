/- The arguments of a statement that are values of package impl (Val, Attr) and lists of attributes, opened as plain data. -/
import Derived.Test.YtihhgnbgejjijaaGreatDoorMem
import Derived.ChangeSame
import Derived.SizedLaws
import Derived.Deep.Strs
namespace Go.Proofs.YtihhgnbgejjijaaGreatDoor.Va
open Go Go.RowKit Go.ChangeShapes Go.WideShapes

/-- What is asked of a program: the forms of the types. -/
structure ValFacts (P : Program) : Prop where
  uVal : P.underlying 33 = some (.struct #[{ name := "Kind", type := 3, offset := 0, embedded := false, tag := "", pkgPath := "", byteOffset := 0 }, { name := "N", type := 29, offset := 1, embedded := false, tag := "", pkgPath := "", byteOffset := 8 }, { name := "S", type := 9, offset := 2, embedded := false, tag := "", pkgPath := "", byteOffset := 16 }, { name := "T", type := 31, offset := 3, embedded := false, tag := "", pkgPath := "", byteOffset := 32 }, { name := "L", type := 24, offset := 6, embedded := false, tag := "", pkgPath := "", byteOffset := 56 }])
  uTime : P.underlying 31 = some (.struct #[{ name := "Sec", type := 2, offset := 0, embedded := false, tag := "", pkgPath := "", byteOffset := 0 }, { name := "Nsec", type := 3, offset := 1, embedded := false, tag := "", pkgPath := "", byteOffset := 8 }, { name := "Off", type := 3, offset := 2, embedded := false, tag := "", pkgPath := "", byteOffset := 16 }])
  uAttr : P.underlying 35 = some (.struct #[{ name := "Key", type := 9, offset := 0, embedded := false, tag := "", pkgPath := "", byteOffset := 0 }, { name := "Val", type := 33, offset := 1, embedded := false, tag := "", pkgPath := "", byteOffset := 16 }])
  uAttrs : P.underlying 24 = some (.slice 35)
  uInt : P.underlying 3 = some (.int .i64)
  uI64 : P.underlying 2 = some (.int .i64)
  uU64 : P.underlying 29 = some (.int .u64)
  uStr : P.underlying 9 = some .string
  cVal : P.cellsOf 33 = 7
  cAttr : P.cellsOf 35 = 8
  cTime : P.cellsOf 31 = 3
  cInt : P.cellsOf 3 = 1
  cI64 : P.cellsOf 2 = 1
  cU64 : P.cellsOf 29 = 1
  cStr : P.cellsOf 9 = 1
  cAttrs : P.cellsOf 24 = 1
  bAttr : P.bytesOf 35 = 96
theorem valFacts : ValFacts Tryz.prog := ⟨Tryz.underlying33, Tryz.underlying31, Tryz.underlying35, Tryz.underlying24, Tryz.underlying3, Tryz.underlying2, Tryz.underlying29, Tryz.underlying9,
  by kernel_rfl, by kernel_rfl, by kernel_rfl, by kernel_rfl, by kernel_rfl, by kernel_rfl, by kernel_rfl, by kernel_rfl, by kernel_rfl⟩

theorem i64_bd {n : Int} (h : (Lit.int .i64 n).wf = true) : -9223372036854775808 ≤ n ∧ n ≤ 9223372036854775807 := by
  simp [Lit.wf, IntKind.min, IntKind.max, IntKind.signed, IntKind.bits] at h
  omega
theorem u64_bd {n : Int} (h : (Lit.int .u64 n).wf = true) : 0 ≤ n ∧ n ≤ 18446744073709551615 := by
  simp [Lit.wf, IntKind.min, IntKind.max, IntKind.signed, IntKind.bits] at h
  omega

theorem list3 : ∀ {cs : List Value}, cs.length = 3 → ∃ a b c, cs = [a, b, c]
  | [a, b, c], _ => ⟨a, b, c, rfl⟩
theorem list7 : ∀ {cs : List Value}, cs.length = 7 → ∃ a b c d e f g, cs = [a, b, c, d, e, f, g]
  | [a, b, c, d, e, f, g], _ => ⟨a, b, c, d, e, f, g, rfl⟩
theorem list8 : ∀ {cs : List Value}, cs.length = 8 → ∃ a b c d e f g h, cs = [a, b, c, d, e, f, g, h]
  | [a, b, c, d, e, f, g, h], _ => ⟨a, b, c, d, e, f, g, h, rfl⟩
theorem pair2 {α : Type} : ∀ {xs : List α}, xs.length = 2 → ∃ a b, xs = [a, b]
  | [a, b], _ => ⟨a, b, rfl⟩
theorem five {α : Type} : ∀ {xs : List α}, xs.length = 5 → ∃ a b c d e, xs = [a, b, c, d, e]
  | [a, b, c, d, e], _ => ⟨a, b, c, d, e, rfl⟩

section
variable {P : Program} {H : Type} {enc : TypeId × Value → H} {w : World} {sp : Nat → Bool} {held : Bool}

theorem weights_struct {t : TypeId} {fs : Array Field} {parts : List (DataW H)} (ht : P.underlying t = some (.struct fs)) : (DataW.agg parts).weights P t = DataW.weightsEach P (fs.toList.map (·.type)) parts := by
  simp [DataW.weights, ht]
theorem weights_slice {t e : TypeId} {elems spare : List (DataW H)} (ht : P.underlying t = some (.slice e)) : (DataW.slice elems spare).weights P t = (elems.length + spare.length) * P.bytesOf e :: (DataW.weightsAll P e elems ++ DataW.weightsAll P e spare) := by
  simp [DataW.weights, ht]
theorem weightsAll_mem {e : TypeId} : ∀ {l : List (DataW H)} {d : DataW H}, d ∈ l → ∀ n ∈ d.weights P e, n ∈ DataW.weightsAll P e l
  | a :: r, d, h, n, hn => by
    simp only [DataW.weightsAll, List.mem_append]
    rcases List.mem_cons.1 h with rfl | h'
    · exact .inl hn
    · exact .inr (weightsAll_mem h' n hn)

theorem weights_str {t : TypeId} {s : List UInt8} : (DataW.lit (.string s) : DataW H).weights P t = [s.length] := by simp [DataW.weights]
theorem reach_le {n : Nat} (h : n ≤ reachBytes) : n ≤ 140737488351232 := h
variable (hP : ValFacts P)
include hP

theorem open_time {n : Nat} {cs : List Value} {y : DataW H × List MemPlace} (h : DataW.trod enc P w 0 sp held n 31 cs = some y) :
    ∃ t : GTime, cs = [.int .i64 t.sec, .int .i64 t.nsec, .int .i64 t.off] ∧ (-9223372036854775808 ≤ t.sec ∧ t.sec ≤ 9223372036854775807) ∧ (-9223372036854775808 ≤ t.nsec ∧ t.nsec ≤ 9223372036854775807) ∧ (-9223372036854775808 ≤ t.off ∧ t.off ≤ 9223372036854775807) := by
  obtain ⟨y0, y1, y2, m, rfl, hl, h0, h1, h2⟩ := Deep.trod_struct3 hP.uTime h
  rw [hP.cTime] at hl
  obtain ⟨c0, c1, c2, rfl⟩ := list3 hl
  dsimp only at h0 h1 h2
  rw [hP.cI64] at h0
  rw [hP.cInt] at h1 h2
  obtain ⟨a, e0, _, w0⟩ := DataW.trod_int hP.uI64 h0
  obtain ⟨b, e1, _, w1⟩ := DataW.trod_int hP.uInt h1
  obtain ⟨c, e2, _, w2⟩ := DataW.trod_int hP.uInt h2
  simp at e0 e1 e2
  subst e0 e1 e2
  exact ⟨⟨a, b, c⟩, rfl, i64_bd w0, i64_bd w1, i64_bd w2⟩

/-- What a reading of a Val comes to. -/
def ValRead (w : World) (cs : List Value) : Prop := ∃ (g : GVal) (A : Option Addr) (len cap : Nat), g.wf ∧ cs = [.int .i64 g.kind, .int .u64 g.n, .string g.s, .int .i64 g.t.sec, .int .i64 g.t.nsec, .int .i64 g.t.off, .slice A len cap] ∧ RS w g.l A len

/-- The elements of a list of attributes, from the last one on. -/
theorem open_elems {m : Nat} {a : Addr} {len : Nat} {elems : List (DataW H × List MemPlace)} (hle : elems.length = len)
    (hel : ∀ i, i < len → (w.cells? 0 (a.add (i * P.cellsOf 35)) (P.cellsOf 35)).bind (DataW.trod enc P w 0 sp held m 35) = elems[i]?)
    (hw : ∀ y ∈ elems, ∀ n ∈ y.1.weights P 35, n ≤ reachBytes)
    (ih : ∀ (m' : Nat) (cs : List Value) (x : DataW H × List MemPlace), m' < m → DataW.trod enc P w 0 sp held m' 33 cs = some x → (∀ n ∈ x.1.weights P 33, n ≤ reachBytes) → ValRead w cs) :
    ∀ j, j ≤ len → ∃ l : GAttrs, l.wf ∧ l.len = j ∧ RAs w l a.block (a.off + (len - j) * 8) := by
  have hspot : 0 < len → a.spot = none := by
    intro h0
    have h := hel 0 h0
    rw [List.getElem?_eq_getElem (by omega), Option.bind_eq_some_iff] at h
    obtain ⟨cs, hcs, _⟩ := h
    rw [hP.cAttr, Nat.zero_mul] at hcs
    have h2 := (World.cells?_some hcs).2.2 0 (by omega)
    have h3 := (World.cells?_some hcs).2.1
    rw [List.getElem?_eq_getElem (by omega)] at h2
    have := World.cell?_spot h2
    simpa [Addr.add] using this
  intro j
  induction j with
  | zero => intro _; exact ⟨.nil, by unfold GAttrs.wf; trivial, rfl, by unfold RAs; trivial⟩
  | succ j ihj =>
    intro hj
    obtain ⟨r, rwf, rlen, rras⟩ := ihj (by omega)
    have hi : len - (j + 1) < len := by omega
    have h := hel (len - (j + 1)) hi
    rw [List.getElem?_eq_getElem (by omega), Option.bind_eq_some_iff] at h
    obtain ⟨cs, hcs, hy⟩ := h
    rw [hP.cAttr] at hcs
    obtain ⟨_, hclen, hcell⟩ := World.cells?_some hcs
    have hmem := List.getElem_mem (l := elems) (n := len - (j + 1)) (by omega)
    have hwy := hw _ hmem
    generalize elems[len - (j + 1)] = y at hy hwy
    obtain ⟨xs, m', rfl, rfl, hl, hxl, hf⟩ := DataW.trod_struct hP.uAttr hy
    obtain ⟨y0, y1, rfl⟩ := pair2 hxl
    have h0 : DataW.trod enc P w 0 sp held m' 9 ((cs.drop 0).take (P.cellsOf 9)) = some y0 := hf 0 _ rfl
    have h1 : DataW.trod enc P w 0 sp held m' 33 ((cs.drop 1).take (P.cellsOf 33)) = some y1 := hf 1 _ rfl
    clear hf
    rw [hP.cStr] at h0
    rw [hP.cVal] at h1
    rw [hP.cAttr] at hl
    obtain ⟨c0, c1, c2, c3, c4, c5, c6, c7, rfl⟩ := list8 hl
    have h0 : DataW.trod enc P w 0 sp held m' 9 [c0] = some y0 := h0
    have h1 : DataW.trod enc P w 0 sp held m' 33 [c1, c2, c3, c4, c5, c6, c7] = some y1 := h1
    obtain ⟨s, e0, ey0, ws⟩ := DataW.trod_string hP.uStr h0
    have hwt := weights_struct (parts := [y0.1, y1.1]) hP.uAttr
    obtain ⟨g, A, ln, cap, gwf, ecs, grs⟩ := ih m' _ y1 (by omega) h1 (fun n hn => hwy n (by
      show n ∈ (DataW.agg [y0.1, y1.1]).weights P 35
      rw [hwt]; exact DataW.weights_mem_each (j := 1) rfl rfl n hn))
    have hks : s.size ≤ 140737488355328 := by
      have hn : s.data.toList.length ≤ reachBytes := hwy _ (by
        show _ ∈ (DataW.agg [y0.1, y1.1]).weights P 35
        rw [hwt]; exact DataW.weights_mem_each (j := 0) rfl rfl _ (by rw [ey0, weights_str]; exact List.mem_cons_self ..))
      have hn := reach_le hn
      have : s.data.toList.length = s.size := Array.length_toList
      omega
    obtain rfl : c0 = .string s := by simpa using e0
    simp only [List.cons.injEq, and_true] at ecs
    obtain ⟨rfl, rfl, rfl, rfl, rfl, rfl, rfl⟩ := ecs
    have hsp := hspot (by omega)
    have hadd : ∀ i : Nat, i < 8 → (a.add ((len - (j + 1)) * 8)).add i = ⟨a.block, a.off + (len - (j + 1)) * 8 + i, none⟩ := by
      intro i _
      obtain ⟨ab, ao, asp⟩ := a
      simp only at hsp
      subst hsp
      unfold Addr.add
      split <;> split <;> simp_all
    have hc : ∀ (i : Nat) (v : Value), i < 8 → [Value.string s, .int .i64 g.kind, .int .u64 g.n, .string g.s, .int .i64 g.t.sec, .int .i64 g.t.nsec, .int .i64 g.t.off, .slice A ln cap][i]? = some v → w.cell? ⟨a.block, a.off + (len - (j + 1)) * 8 + i, none⟩ = some v := by
      intro i v hi hv
      rw [← hadd i hi, hcell i hi]
      exact hv
    refine ⟨.cons s g r, by unfold GAttrs.wf; exact ⟨hks, gwf, rwf⟩, by simp [GAttrs.len, rlen], ?_⟩
    obtain ⟨gk, gn, gs, gt, gl⟩ := g
    unfold RAs RVal
    refine ⟨hc 0 _ (by omega) rfl, ⟨hc 1 _ (by omega) rfl, hc 2 _ (by omega) rfl, hc 3 _ (by omega) rfl, hc 4 _ (by omega) rfl, hc 5 _ (by omega) rfl, hc 6 _ (by omega) rfl, A, ln, cap, hc 7 _ (by omega) rfl, grs.1, grs.2⟩, ?_⟩
    rw [show a.off + (len - (j + 1)) * 8 + 8 = a.off + (len - j) * 8 by omega]
    exact rras

theorem open_valL : ∀ (fuel : Nat) (cs : List Value) (x : DataW H × List MemPlace), DataW.trod enc P w 0 sp held fuel 33 cs = some x → (∀ n ∈ x.1.weights P 33, n ≤ reachBytes) → ValRead w cs := by
  intro fuel
  induction fuel using Nat.strongRecOn with
  | _ fuel ih =>
  intro cs x h hw
  obtain ⟨xs, n, rfl, rfl, hl, hxl, hf⟩ := DataW.trod_struct hP.uVal h
  obtain ⟨y0, y1, y2, y3, y4, rfl⟩ := five hxl
  have h0 : DataW.trod enc P w 0 sp held n 3 ((cs.drop 0).take (P.cellsOf 3)) = some y0 := hf 0 _ rfl
  have h1 : DataW.trod enc P w 0 sp held n 29 ((cs.drop 1).take (P.cellsOf 29)) = some y1 := hf 1 _ rfl
  have h2 : DataW.trod enc P w 0 sp held n 9 ((cs.drop 2).take (P.cellsOf 9)) = some y2 := hf 2 _ rfl
  have h3 : DataW.trod enc P w 0 sp held n 31 ((cs.drop 3).take (P.cellsOf 31)) = some y3 := hf 3 _ rfl
  have h4 : DataW.trod enc P w 0 sp held n 24 ((cs.drop 6).take (P.cellsOf 24)) = some y4 := hf 4 _ rfl
  clear hf
  rw [hP.cInt] at h0
  rw [hP.cU64] at h1
  rw [hP.cStr] at h2
  rw [hP.cTime] at h3
  rw [hP.cAttrs] at h4
  rw [hP.cVal] at hl
  obtain ⟨c0, c1, c2, c3, c4, c5, c6, rfl⟩ := list7 hl
  have h0 : DataW.trod enc P w 0 sp held n 3 [c0] = some y0 := h0
  have h1 : DataW.trod enc P w 0 sp held n 29 [c1] = some y1 := h1
  have h2 : DataW.trod enc P w 0 sp held n 9 [c2] = some y2 := h2
  have h3 : DataW.trod enc P w 0 sp held n 31 [c3, c4, c5] = some y3 := h3
  have h4 : DataW.trod enc P w 0 sp held n 24 [c6] = some y4 := h4
  have hwt := weights_struct (parts := [y0.1, y1.1, y2.1, y3.1, y4.1]) hP.uVal
  have hwe : ∀ (j : Nat) (t : TypeId) (d : DataW H), ([3, 29, 9, 31, 24] : List TypeId)[j]? = some t → [y0.1, y1.1, y2.1, y3.1, y4.1][j]? = some d → ∀ k ∈ d.weights P t, k ≤ reachBytes := by
    intro j t d hj hd k hk
    refine hw k ?_
    show k ∈ (DataW.agg [y0.1, y1.1, y2.1, y3.1, y4.1]).weights P 33
    rw [hwt]
    exact DataW.weights_mem_each (j := j) hj hd k hk
  obtain ⟨k, e0, _, wk⟩ := DataW.trod_int hP.uInt h0
  obtain ⟨nn, e1, _, wn⟩ := DataW.trod_int hP.uU64 h1
  obtain ⟨s, e2, ey2, ws⟩ := DataW.trod_string hP.uStr h2
  obtain ⟨t, e3, wt1, wt2, wt3⟩ := open_time hP h3
  have hs : s.size ≤ 140737488355328 := by
    have hn : s.data.toList.length ≤ reachBytes := hwe 2 _ _ rfl rfl _ (by rw [ey2, weights_str]; exact List.mem_cons_self ..)
    have hn := reach_le hn
    have : s.data.toList.length = s.size := Array.length_toList
    omega
  have hw4 := hwe 4 _ _ rfl rfl
  obtain rfl : c0 = .int .i64 k := by simpa using e0
  obtain rfl : c1 = .int .u64 nn := by simpa using e1
  obtain rfl : c2 = .string s := by simpa using e2
  simp only [List.cons.injEq, and_true] at e3
  obtain ⟨rfl, rfl, rfl⟩ := e3
  rcases DataW.trod_slice hP.uAttrs h4 with ⟨e4, _⟩ | ⟨a, len, cap, elems, rest, m, rfl, e4, rfl, _, hlc, hcm, hle, hel, _, _⟩
  · obtain rfl : c6 = .slice none 0 0 := by simpa using e4
    exact ⟨.mk k nn s t .nil, none, 0, 0, by unfold GVal.wf; exact ⟨i64_bd wk, u64_bd wn, hs, wt1, wt2, wt3, by simp [GAttrs.len], by unfold GAttrs.wf; trivial⟩, rfl, RS.nil_ _ _⟩
  · obtain rfl : c6 = .slice (some a) len cap := by simpa using e4
    rw [weights_slice hP.uAttrs, hP.bAttr] at hw4
    obtain ⟨l, lwf, llen, lras⟩ := open_elems hP hle hel (fun y hy k hk => hw4 k (by
      refine List.mem_cons_of_mem _ (List.mem_append_left _ (weightsAll_mem (List.mem_map.2 ⟨y, hy, rfl⟩) k hk)))) (fun m' cs x hm' => ih m' (by omega) cs x) len (Nat.le_refl _)
    have hln := hw4 _ (List.mem_cons_self ..)
    have hln := reach_le hln
    rw [List.length_map, hle] at hln
    rw [Nat.sub_self, Nat.zero_mul, Nat.add_zero] at lras
    refine ⟨.mk k nn s t l, some a, len, cap, by unfold GVal.wf; exact ⟨i64_bd wk, u64_bd wn, hs, wt1, wt2, wt3, by omega, lwf⟩, rfl, llen.symm, fun hp => ⟨a.block, a.off, ?_, lras⟩⟩
    have h := hel 0 hp
    rw [List.getElem?_eq_getElem (by omega), Option.bind_eq_some_iff] at h
    obtain ⟨cs, hcs, _⟩ := h
    rw [hP.cAttr, Nat.zero_mul] at hcs
    have h2 := (World.cells?_some hcs).2.2 0 (by omega)
    have h3 := (World.cells?_some hcs).2.1
    rw [List.getElem?_eq_getElem (by omega)] at h2
    have := World.cell?_spot h2
    obtain ⟨ab, ao, asp⟩ := a
    have : asp = none := by simpa [Addr.add] using this
    rw [this]

/-- A Val among the arguments. -/
theorem open_val {r : Reach} {b0 : Nat} {v : Value} {d : DataW H} {ps : List MemPlace} (hval : Value.okWide P w r b0 33 v) (h : DataW.Trod enc P w 0 sp held 33 v d ps)
    (hw : ∀ n ∈ d.weights P 33, n ≤ reachBytes) : ∃ (g : GVal) (A : Option Addr) (len cap : Nat), v = vVal g A len cap ∧ g.wf ∧ RS w g.l A len := by
  obtain ⟨cs, rfl, _⟩ := okWide_struct hP.uVal hval
  obtain ⟨fuel, hf⟩ := h
  obtain ⟨g, A, len, cap, gwf, ecs, grs⟩ := open_valL hP fuel _ _ hf hw
  refine ⟨g, A, len, cap, ?_, gwf, grs⟩
  have : cs.toList = _ := ecs
  unfold vVal
  rw [← Array.toArray_toList (xs := cs), this]

/-- An Attr among the arguments. -/
theorem open_attr {r : Reach} {b0 : Nat} {v : Value} {d : DataW H} {ps : List MemPlace} (hval : Value.okWide P w r b0 35 v) (h : DataW.Trod enc P w 0 sp held 35 v d ps)
    (hw : ∀ n ∈ d.weights P 35, n ≤ reachBytes) : ∃ (key : ByteArray) (g : GVal) (A : Option Addr) (len cap : Nat), v = .agg #[.string key, .int .i64 g.kind, .int .u64 g.n, .string g.s, .int .i64 g.t.sec, .int .i64 g.t.nsec, .int .i64 g.t.off, .slice A len cap] ∧ key.size ≤ 140737488355328 ∧ g.wf ∧ RS w g.l A len := by
  obtain ⟨cs, rfl, hsz⟩ := okWide_struct hP.uAttr hval
  obtain ⟨fuel, hf⟩ := h
  obtain ⟨xs, m', rfl, hx, hl, hxl, hff⟩ := DataW.trod_struct hP.uAttr hf
  obtain ⟨y0, y1, rfl⟩ := pair2 hxl
  have hl : cs.toList.length = P.cellsOf 35 := hl
  rw [hP.cAttr] at hl
  obtain ⟨c0, c1, c2, c3, c4, c5, c6, c7, hcs⟩ := list8 hl
  have hcs' : (Value.agg cs).cells.toList = [c0, c1, c2, c3, c4, c5, c6, c7] := hcs
  rw [hcs'] at hff
  have h0 : DataW.trod enc P w 0 sp held m' 9 (([c0, c1, c2, c3, c4, c5, c6, c7].drop 0).take (P.cellsOf 9)) = some y0 := hff 0 _ rfl
  have h1 : DataW.trod enc P w 0 sp held m' 33 (([c0, c1, c2, c3, c4, c5, c6, c7].drop 1).take (P.cellsOf 33)) = some y1 := hff 1 _ rfl
  rw [hP.cStr] at h0
  rw [hP.cVal] at h1
  have h0 : DataW.trod enc P w 0 sp held m' 9 [c0] = some y0 := h0
  have h1 : DataW.trod enc P w 0 sp held m' 33 [c1, c2, c3, c4, c5, c6, c7] = some y1 := h1
  obtain ⟨s, e0, ey0, ws⟩ := DataW.trod_string hP.uStr h0
  have hwt := weights_struct (parts := [y0.1, y1.1]) hP.uAttr
  obtain rfl : d = .agg [y0.1, y1.1] := (Prod.mk.inj hx).1
  obtain ⟨g, A, ln, cap, gwf, ecs, grs⟩ := open_valL hP m' _ y1 h1 (fun n hn => hw n (by rw [hwt]; exact DataW.weights_mem_each (j := 1) rfl rfl n hn))
  have hks : s.size ≤ 140737488355328 := by
    have hn : s.data.toList.length ≤ reachBytes := hw _ (by rw [hwt]; exact DataW.weights_mem_each (j := 0) rfl rfl _ (by rw [ey0, weights_str]; exact List.mem_cons_self ..))
    have hn := reach_le hn
    have : s.data.toList.length = s.size := Array.length_toList
    omega
  obtain rfl : c0 = .string s := by simpa using e0
  simp only [List.cons.injEq, and_true] at ecs
  obtain ⟨rfl, rfl, rfl, rfl, rfl, rfl, rfl⟩ := ecs
  refine ⟨s, g, A, ln, cap, ?_, hks, gwf, grs⟩
  rw [← Array.toArray_toList (xs := cs), hcs]
end
end Go.Proofs.YtihhgnbgejjijaaGreatDoor.Va
