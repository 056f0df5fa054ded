/- A list of Args among the arguments, opened. -/
import Derived.Test.YtihhgnbgejjijaaGreatDoorOpen
import Derived.Test.YtihhgnbgejjijaaGreatDoorRcArgs
import Derived.Test.YtihhgnbgejjijaaGreatDoorLgSame
namespace Go.Proofs.YtihhgnbgejjijaaGreatDoor.Va
open Go Go.RowKit Go.ChangeShapes Go.WideShapes

/-- What is asked of a program: the form of Arg. -/
structure ArgFacts (P : Program) : Prop where
  uArg : P.underlying 37 = some (.struct #[{ name := "What", type := 3, offset := 0, embedded := false, tag := "", pkgPath := "", byteOffset := 0 }, { name := "Key", type := 9, offset := 1, embedded := false, tag := "", pkgPath := "", byteOffset := 8 }, { name := "Val", type := 33, offset := 2, embedded := false, tag := "", pkgPath := "", byteOffset := 24 }])
  uArgs : P.underlying 22 = some (.slice 37)
  cArg : P.cellsOf 37 = 9
  bArg : P.bytesOf 37 = 104
theorem argFacts : ArgFacts Tryz.prog := ⟨by kernel_rfl, by kernel_rfl, by kernel_rfl, by kernel_rfl⟩
theorem list9 : ∀ {cs : List Value}, cs.length = 9 → ∃ a b c d e f g h i, cs = [a, b, c, d, e, f, g, h, i]
  | [a, b, c, d, e, f, g, h, i], _ => ⟨a, b, c, d, e, f, g, h, i, rfl⟩

section
variable {P : Program} {H : Type} {enc : TypeId × Value → H} {w : World} {sp : Nat → Bool} {held : Bool}
variable (hP : ValFacts P) (hA : ArgFacts P)
include hP hA

/-- The elements of a list of arguments, from the last one on. -/
theorem open_aelems {m : Nat} {a : Addr} {len : Nat} {elems : List (DataW H × List MemPlace)} (hle : elems.length = len)
    (hel : ∀ i, i < len → (w.cells? 0 (a.add (i * P.cellsOf 37)) (P.cellsOf 37)).bind (DataW.trod enc P w 0 sp held m 37) = elems[i]?)
    (hw : ∀ y ∈ elems, ∀ n ∈ y.1.weights P 37, n ≤ reachBytes) :
    ∀ j, j ≤ len → ∃ l : List GArg, argsWf l ∧ l.length = j ∧ RArgs w l a.block (a.off + (len - j) * 9) := by
  have hspot : 0 < len → a.spot = none := by
    intro h0
    have h := hel 0 h0
    rw [List.getElem?_eq_getElem (by omega), Option.bind_eq_some_iff] at h
    obtain ⟨cs, hcs, _⟩ := h
    rw [hA.cArg, Nat.zero_mul] at hcs
    have h2 := (World.cells?_some hcs).2.2 0 (by omega)
    have h3 := (World.cells?_some hcs).2.1
    rw [List.getElem?_eq_getElem (by omega)] at h2
    have := World.cell?_spot h2
    simpa [Addr.add] using this
  intro j
  induction j with
  | zero => intro _; exact ⟨[], trivial, rfl, trivial⟩
  | succ j ihj =>
    intro hj
    obtain ⟨r, rwf, rlen, rras⟩ := ihj (by omega)
    have hi : len - (j + 1) < len := by omega
    have h := hel (len - (j + 1)) hi
    rw [List.getElem?_eq_getElem (by omega), Option.bind_eq_some_iff] at h
    obtain ⟨cs, hcs, hy⟩ := h
    rw [hA.cArg] at hcs
    obtain ⟨_, hclen, hcell⟩ := World.cells?_some hcs
    have hmem := List.getElem_mem (l := elems) (n := len - (j + 1)) (by omega)
    have hwy := hw _ hmem
    generalize elems[len - (j + 1)] = y at hy hwy
    obtain ⟨y0, y1, y2, m', rfl, hl, h0, h1, h2⟩ := Deep.trod_struct3 hA.uArg hy
    rw [hA.cArg] at hl
    obtain ⟨c0, c1, c2, c3, c4, c5, c6, c7, c8, rfl⟩ := list9 hl
    dsimp only at h0 h1 h2
    rw [hP.cInt] at h0
    rw [hP.cStr] at h1
    rw [hP.cVal] at h2
    have h0 : DataW.trod enc P w 0 sp held m' 3 [c0] = some y0 := h0
    have h1 : DataW.trod enc P w 0 sp held m' 9 [c1] = some y1 := h1
    have h2 : DataW.trod enc P w 0 sp held m' 33 [c2, c3, c4, c5, c6, c7, c8] = some y2 := h2
    obtain ⟨k, e0, _, wk⟩ := DataW.trod_int hP.uInt h0
    obtain ⟨s, e1, ey1, ws⟩ := DataW.trod_string hP.uStr h1
    have hwt := weights_struct (parts := [y0.1, y1.1, y2.1]) hA.uArg
    obtain ⟨g, A, ln, cap, gwf, ecs, grs⟩ := open_valL hP m' _ y2 h2 (fun n hn => hwy n (by
      show n ∈ (DataW.agg [y0.1, y1.1, y2.1]).weights P 37
      rw [hwt]; exact DataW.weights_mem_each (j := 2) rfl rfl n hn))
    have hks : s.size ≤ 140737488355328 := by
      have hn : s.data.toList.length ≤ reachBytes := hwy _ (by
        show _ ∈ (DataW.agg [y0.1, y1.1, y2.1]).weights P 37
        rw [hwt]; exact DataW.weights_mem_each (j := 1) rfl rfl _ (by rw [ey1, weights_str]; exact List.mem_cons_self ..))
      have hn := reach_le hn
      have : s.data.toList.length = s.size := Array.length_toList
      omega
    obtain rfl : c0 = .int .i64 k := by simpa using e0
    obtain rfl : c1 = .string s := by simpa using e1
    simp only [List.cons.injEq, and_true] at ecs
    obtain ⟨rfl, rfl, rfl, rfl, rfl, rfl, rfl⟩ := ecs
    have hsp := hspot (by omega)
    have hadd : ∀ i : Nat, i < 9 → (a.add ((len - (j + 1)) * 9)).add i = ⟨a.block, a.off + (len - (j + 1)) * 9 + i, none⟩ := by
      intro i _
      obtain ⟨ab, ao, asp⟩ := a
      simp only at hsp
      subst hsp
      unfold Addr.add
      split <;> split <;> simp_all
    have hc : ∀ (i : Nat) (v : Value), i < 9 → [Value.int .i64 k, .string s, .int .i64 g.kind, .int .u64 g.n, .string g.s, .int .i64 g.t.sec, .int .i64 g.t.nsec, .int .i64 g.t.off, .slice A ln cap][i]? = some v → w.cell? ⟨a.block, a.off + (len - (j + 1)) * 9 + i, none⟩ = some v := by
      intro i v hi hv
      rw [← hadd i hi, hcell i hi]
      exact hv
    refine ⟨⟨k, s, g⟩ :: r, ⟨⟨i64_bd wk, hks, gwf⟩, rwf⟩, by simp [rlen], ?_⟩
    obtain ⟨gk, gn, gs, gt, gl⟩ := g
    refine ⟨hc 0 _ (by omega) rfl, hc 1 _ (by omega) rfl, ?_, ?_⟩
    · unfold RVal
      exact ⟨hc 2 _ (by omega) rfl, hc 3 _ (by omega) rfl, hc 4 _ (by omega) rfl, hc 5 _ (by omega) rfl, hc 6 _ (by omega) rfl, hc 7 _ (by omega) rfl, A, ln, cap, hc 8 _ (by omega) rfl, grs.1, grs.2⟩
    · rw [show a.off + (len - (j + 1)) * 9 + 9 = a.off + (len - j) * 9 by omega]
      exact rras

/-- A list of Args among the arguments. -/
theorem open_args {r : Reach} {b0 : Nat} {v : Value} {d : DataW H} {ps : List MemPlace} (hval : Value.okWide P w r b0 22 v) (h : DataW.Trod enc P w 0 sp held 22 v d ps)
    (hw : ∀ n ∈ d.weights P 22, n ≤ reachBytes) : ∃ (l : List GArg) (A : Option Addr) (len cap : Nat), v = .slice A len cap ∧ argsWf l ∧ l.length ≤ 140737488355328 ∧ len ≤ cap ∧ RArgS w l A len := by
  obtain ⟨a0, len0, cap0, rfl⟩ := okWide_slice hA.uArgs hval
  obtain ⟨fuel, hf⟩ := h
  have hf : DataW.trod enc P w 0 sp held fuel 22 [Value.slice a0 len0 cap0] = some (d, ps) := hf
  rcases DataW.trod_slice hA.uArgs hf with ⟨e4, _⟩ | ⟨a, len, cap, elems, rest, m, rfl, e4, ex, _, hlc, hcm, hle, hel, _, _⟩
  · obtain ⟨rfl, rfl, rfl⟩ : a0 = none ∧ len0 = 0 ∧ cap0 = 0 := by simpa using e4
    exact ⟨[], none, 0, 0, rfl, trivial, by simp, Nat.le_refl _, rfl, fun h => absurd h (by omega)⟩
  · obtain ⟨rfl, rfl, rfl⟩ : a0 = some a ∧ len0 = len ∧ cap0 = cap := by simpa using e4
    obtain rfl : d = _ := (Prod.mk.inj ex).1
    rw [weights_slice hA.uArgs, hA.bArg] at hw
    obtain ⟨l, lwf, llen, lras⟩ := open_aelems hP hA hle hel (fun y hy k hk => hw k (by
      refine List.mem_cons_of_mem _ (List.mem_append_left _ (weightsAll_mem (List.mem_map.2 ⟨y, hy, rfl⟩) k hk)))) len0 (Nat.le_refl _)
    have hln := hw _ (List.mem_cons_self ..)
    have hln := reach_le hln
    rw [List.length_map, hle] at hln
    rw [Nat.sub_self, Nat.zero_mul, Nat.add_zero] at lras
    refine ⟨l, some a, len0, cap0, rfl, lwf, by omega, hlc, llen.symm, fun hp => ⟨a.block, a.off, ?_, lras⟩⟩
    have h := hel 0 hp
    rw [List.getElem?_eq_getElem (by omega), Option.bind_eq_some_iff] at h
    obtain ⟨cs, hcs, _⟩ := h
    rw [hA.cArg, Nat.zero_mul] at hcs
    have h2 := (World.cells?_some hcs).2.2 0 (by omega)
    have h3 := (World.cells?_some hcs).2.1
    rw [List.getElem?_eq_getElem (by omega)] at h2
    have := World.cell?_spot h2
    obtain ⟨ab, ao, asp⟩ := a
    have : asp = none := by simpa [Addr.add] using this
    rw [this]
end
end Go.Proofs.YtihhgnbgejjijaaGreatDoor.Va

/- A list of Attrs among the arguments, opened. -/
namespace Go.Proofs.YtihhgnbgejjijaaGreatDoor.Va
open Go Go.RowKit Go.ChangeShapes Go.WideShapes

section
variable {P : Program} {H : Type} {enc : TypeId × Value → H} {w : World} {sp : Nat → Bool} {held : Bool}
variable (hP : ValFacts P)
include hP

/-- A list of Attrs among the arguments. -/
theorem open_attrs {r : Reach} {b0 : Nat} {v : Value} {d : DataW H} {ps : List MemPlace} (hval : Value.okWide P w r b0 24 v) (h : DataW.Trod enc P w 0 sp held 24 v d ps)
    (hw : ∀ n ∈ d.weights P 24, n ≤ reachBytes) : ∃ (l : GAttrs) (A : Option Addr) (len cap : Nat), v = .slice A len cap ∧ l.wf ∧ l.len ≤ 140737488355328 ∧ RS w l A len := by
  obtain ⟨a0, len0, cap0, rfl⟩ := okWide_slice hP.uAttrs hval
  obtain ⟨fuel, hf⟩ := h
  have hf : DataW.trod enc P w 0 sp held fuel 24 [Value.slice a0 len0 cap0] = some (d, ps) := hf
  rcases DataW.trod_slice hP.uAttrs hf with ⟨e4, _⟩ | ⟨a, len, cap, elems, rest, m, rfl, e4, ex, _, hlc, hcm, hle, hel, _, _⟩
  · obtain ⟨rfl, rfl, rfl⟩ : a0 = none ∧ len0 = 0 ∧ cap0 = 0 := by simpa using e4
    exact ⟨.nil, none, 0, 0, rfl, by unfold GAttrs.wf; trivial, by simp [GAttrs.len], RS.nil_ _ _⟩
  · obtain ⟨rfl, rfl, rfl⟩ : a0 = some a ∧ len0 = len ∧ cap0 = cap := by simpa using e4
    obtain rfl : d = _ := (Prod.mk.inj ex).1
    rw [weights_slice hP.uAttrs, hP.bAttr] at hw
    obtain ⟨l, lwf, llen, lras⟩ := open_elems hP hle hel (fun y hy k hk => hw k (by
      refine List.mem_cons_of_mem _ (List.mem_append_left _ (weightsAll_mem (List.mem_map.2 ⟨y, hy, rfl⟩) k hk)))) (fun m' cs x _ => open_valL hP m' cs x) len0 (Nat.le_refl _)
    have hln := hw _ (List.mem_cons_self ..)
    have hln := reach_le hln
    rw [List.length_map, hle] at hln
    rw [Nat.sub_self, Nat.zero_mul, Nat.add_zero] at lras
    refine ⟨l, some a, len0, cap0, rfl, lwf, by omega, llen.symm, fun hp => ⟨a.block, a.off, ?_, lras⟩⟩
    have h := hel 0 hp
    rw [List.getElem?_eq_getElem (by omega), Option.bind_eq_some_iff] at h
    obtain ⟨cs, hcs, _⟩ := h
    rw [hP.cAttr, Nat.zero_mul] at hcs
    have h2 := (World.cells?_some hcs).2.2 0 (by omega)
    have h3 := (World.cells?_some hcs).2.1
    rw [List.getElem?_eq_getElem (by omega)] at h2
    have := World.cell?_spot h2
    obtain ⟨ab, ao, asp⟩ := a
    have : asp = none := by simpa [Addr.add] using this
    rw [this]
end
end Go.Proofs.YtihhgnbgejjijaaGreatDoor.Va

/- A list of LogSteps among the arguments, opened. -/
namespace Go.Proofs.YtihhgnbgejjijaaGreatDoor.Va
open Go Go.RowKit Go.ChangeShapes Go.WideShapes

/-- What is asked of a program: the form of LogStep. -/
structure StepFacts (P : Program) : Prop where
  uStep : P.underlying 73 = some (.struct #[{ name := "Do", type := 3, offset := 0, embedded := false, tag := "", pkgPath := "", byteOffset := 0 }, { name := "Name", type := 9, offset := 1, embedded := false, tag := "", pkgPath := "", byteOffset := 8 }, { name := "Level", type := 3, offset := 2, embedded := false, tag := "", pkgPath := "", byteOffset := 24 }, { name := "Msg", type := 9, offset := 3, embedded := false, tag := "", pkgPath := "", byteOffset := 32 }, { name := "Args", type := 22, offset := 4, embedded := false, tag := "", pkgPath := "", byteOffset := 48 }, { name := "Attrs", type := 24, offset := 5, embedded := false, tag := "", pkgPath := "", byteOffset := 72 }])
  uSteps : P.underlying 57 = some (.slice 73)
  cStep : P.cellsOf 73 = 6
  cArgs : P.cellsOf 22 = 1
  bStep : P.bytesOf 73 = 96
theorem stepFacts : StepFacts Tryz.prog := ⟨by kernel_rfl, by kernel_rfl, by kernel_rfl, by kernel_rfl, by kernel_rfl⟩
theorem six : ∀ {α : Type} {cs : List α}, cs.length = 6 → ∃ a b c d e f, cs = [a, b, c, d, e, f]
  | _, [a, b, c, d, e, f], _ => ⟨a, b, c, d, e, f, rfl⟩

section
variable {P : Program} {H : Type} {enc : TypeId × Value → H} {w : World} {sp : Nat → Bool} {held : Bool}
variable (hP : ValFacts P) (hA : ArgFacts P) (hS : StepFacts P)

include hP in
theorem open_attrsN {fuel : Nat} {v : Value} {x : DataW H × List MemPlace} (hf : DataW.trod enc P w 0 sp held fuel 24 [v] = some x)
    (hw : ∀ n ∈ x.1.weights P 24, n ≤ reachBytes) : ∃ (l : GAttrs) (A : Option Addr) (len cap : Nat), v = .slice A len cap ∧ l.wf ∧ l.len ≤ 140737488355328 ∧ RS w l A len := by
  rcases DataW.trod_slice hP.uAttrs hf with ⟨e4, _⟩ | ⟨a, len0, cap0, elems, rest, m, rfl, e4, ex, _, hlc, hcm, hle, hel, _, _⟩
  · obtain rfl : v = .slice none 0 0 := by simpa using e4
    exact ⟨.nil, none, 0, 0, rfl, by unfold GAttrs.wf; trivial, by simp [GAttrs.len], RS.nil_ _ _⟩
  · obtain rfl : v = .slice (some a) len0 cap0 := by simpa using e4
    subst ex
    simp only at hw
    rw [weights_slice hP.uAttrs, hP.bAttr] at hw
    obtain ⟨l, lwf, llen, lras⟩ := open_elems hP hle hel (fun y hy k hk => hw k (by
      refine List.mem_cons_of_mem _ (List.mem_append_left _ (weightsAll_mem (List.mem_map.2 ⟨y, hy, rfl⟩) k hk)))) (fun m' cs x _ => open_valL hP m' cs x) len0 (Nat.le_refl _)
    have hln := hw _ (List.mem_cons_self ..)
    have hln := reach_le hln
    rw [List.length_map, hle] at hln
    rw [Nat.sub_self, Nat.zero_mul, Nat.add_zero] at lras
    refine ⟨l, some a, len0, cap0, rfl, lwf, by omega, llen.symm, fun hp => ⟨a.block, a.off, ?_, lras⟩⟩
    have h := hel 0 hp
    rw [List.getElem?_eq_getElem (by omega), Option.bind_eq_some_iff] at h
    obtain ⟨cs, hcs, _⟩ := h
    rw [hP.cAttr, Nat.zero_mul] at hcs
    have h2 := (World.cells?_some hcs).2.2 0 (by omega)
    have h3 := (World.cells?_some hcs).2.1
    rw [List.getElem?_eq_getElem (by omega)] at h2
    have := World.cell?_spot h2
    obtain ⟨ab, ao, asp⟩ := a
    have : asp = none := by simpa [Addr.add] using this
    rw [this]

include hP hA in
theorem open_argsN {fuel : Nat} {v : Value} {x : DataW H × List MemPlace} (hf : DataW.trod enc P w 0 sp held fuel 22 [v] = some x)
    (hw : ∀ n ∈ x.1.weights P 22, n ≤ reachBytes) : ∃ (l : List GArg) (A : Option Addr) (len cap : Nat), v = .slice A len cap ∧ argsWf l ∧ l.length ≤ 140737488355328 ∧ len ≤ cap ∧ RArgS w l A len := by
  rcases DataW.trod_slice hA.uArgs hf with ⟨e4, _⟩ | ⟨a, len0, cap0, elems, rest, m, rfl, e4, ex, _, hlc, hcm, hle, hel, _, _⟩
  · obtain rfl : v = .slice none 0 0 := by simpa using e4
    exact ⟨[], none, 0, 0, rfl, trivial, by simp, Nat.le_refl _, rfl, fun h => absurd h (by omega)⟩
  · obtain rfl : v = .slice (some a) len0 cap0 := by simpa using e4
    subst ex
    simp only at hw
    rw [weights_slice hA.uArgs, hA.bArg] at hw
    obtain ⟨l, lwf, llen, lras⟩ := open_aelems hP hA hle hel (fun y hy k hk => hw k (by
      refine List.mem_cons_of_mem _ (List.mem_append_left _ (weightsAll_mem (List.mem_map.2 ⟨y, hy, rfl⟩) k hk)))) len0 (Nat.le_refl _)
    have hln := hw _ (List.mem_cons_self ..)
    have hln := reach_le hln
    rw [List.length_map, hle] at hln
    rw [Nat.sub_self, Nat.zero_mul, Nat.add_zero] at lras
    refine ⟨l, some a, len0, cap0, rfl, lwf, by omega, hlc, llen.symm, fun hp => ⟨a.block, a.off, ?_, lras⟩⟩
    have h := hel 0 hp
    rw [List.getElem?_eq_getElem (by omega), Option.bind_eq_some_iff] at h
    obtain ⟨cs, hcs, _⟩ := h
    rw [hA.cArg, Nat.zero_mul] at hcs
    have h2 := (World.cells?_some hcs).2.2 0 (by omega)
    have h3 := (World.cells?_some hcs).2.1
    rw [List.getElem?_eq_getElem (by omega)] at h2
    have := World.cell?_spot h2
    obtain ⟨ab, ao, asp⟩ := a
    have : asp = none := by simpa [Addr.add] using this
    rw [this]

include hP hA hS
/-- The elements of a list of steps, from the last one on. -/
theorem open_selems {m : Nat} {a : Addr} {len : Nat} {elems : List (DataW H × List MemPlace)} (hle : elems.length = len)
    (hel : ∀ i, i < len → (w.cells? 0 (a.add (i * P.cellsOf 73)) (P.cellsOf 73)).bind (DataW.trod enc P w 0 sp held m 73) = elems[i]?)
    (hw : ∀ y ∈ elems, ∀ n ∈ y.1.weights P 73, n ≤ reachBytes) :
    ∀ j, j ≤ len → ∃ l : List GStep, stepsWf l ∧ l.length = j ∧ RSteps w l a.block (a.off + (len - j) * 6) := by
  have hspot : 0 < len → a.spot = none := by
    intro h0
    have h := hel 0 h0
    rw [List.getElem?_eq_getElem (by omega), Option.bind_eq_some_iff] at h
    obtain ⟨cs, hcs, _⟩ := h
    rw [hS.cStep, Nat.zero_mul] at hcs
    have h2 := (World.cells?_some hcs).2.2 0 (by omega)
    have h3 := (World.cells?_some hcs).2.1
    rw [List.getElem?_eq_getElem (by omega)] at h2
    have := World.cell?_spot h2
    simpa [Addr.add] using this
  intro j
  induction j with
  | zero => intro _; exact ⟨[], trivial, rfl, trivial⟩
  | succ j ihj =>
    intro hj
    obtain ⟨r, rwf, rlen, rras⟩ := ihj (by omega)
    have hi : len - (j + 1) < len := by omega
    have h := hel (len - (j + 1)) hi
    rw [List.getElem?_eq_getElem (by omega), Option.bind_eq_some_iff] at h
    obtain ⟨cs, hcs, hy⟩ := h
    rw [hS.cStep] at hcs
    obtain ⟨_, hclen, hcell⟩ := World.cells?_some hcs
    have hmem := List.getElem_mem (l := elems) (n := len - (j + 1)) (by omega)
    have hwy := hw _ hmem
    generalize elems[len - (j + 1)] = y at hy hwy
    obtain ⟨xs, m', rfl, rfl, hl, hxl, hf⟩ := DataW.trod_struct hS.uStep hy
    obtain ⟨y0, y1, y2, y3, y4, y5, rfl⟩ := six hxl
    rw [hS.cStep] at hl
    obtain ⟨c0, c1, c2, c3, c4, c5, rfl⟩ := six hl
    have h0 : DataW.trod enc P w 0 sp held m' 3 (([c0, c1, c2, c3, c4, c5].drop 0).take (P.cellsOf 3)) = some y0 := hf 0 _ rfl
    have h1 : DataW.trod enc P w 0 sp held m' 9 (([c0, c1, c2, c3, c4, c5].drop 1).take (P.cellsOf 9)) = some y1 := hf 1 _ rfl
    have h2 : DataW.trod enc P w 0 sp held m' 3 (([c0, c1, c2, c3, c4, c5].drop 2).take (P.cellsOf 3)) = some y2 := hf 2 _ rfl
    have h3 : DataW.trod enc P w 0 sp held m' 9 (([c0, c1, c2, c3, c4, c5].drop 3).take (P.cellsOf 9)) = some y3 := hf 3 _ rfl
    have h4 : DataW.trod enc P w 0 sp held m' 22 (([c0, c1, c2, c3, c4, c5].drop 4).take (P.cellsOf 22)) = some y4 := hf 4 _ rfl
    have h5 : DataW.trod enc P w 0 sp held m' 24 (([c0, c1, c2, c3, c4, c5].drop 5).take (P.cellsOf 24)) = some y5 := hf 5 _ rfl
    rw [hP.cInt] at h0 h2
    rw [hP.cStr] at h1 h3
    rw [hS.cArgs] at h4
    rw [hP.cAttrs] at h5
    have h0 : DataW.trod enc P w 0 sp held m' 3 [c0] = some y0 := h0
    have h1 : DataW.trod enc P w 0 sp held m' 9 [c1] = some y1 := h1
    have h2 : DataW.trod enc P w 0 sp held m' 3 [c2] = some y2 := h2
    have h3 : DataW.trod enc P w 0 sp held m' 9 [c3] = some y3 := h3
    have h4 : DataW.trod enc P w 0 sp held m' 22 [c4] = some y4 := h4
    have h5 : DataW.trod enc P w 0 sp held m' 24 [c5] = some y5 := h5
    obtain ⟨k, e0, _, wk⟩ := DataW.trod_int hP.uInt h0
    obtain ⟨s, e1, ey1, ws⟩ := DataW.trod_string hP.uStr h1
    obtain ⟨lv, e2, _, wlv⟩ := DataW.trod_int hP.uInt h2
    obtain ⟨ms, e3, ey3, wms⟩ := DataW.trod_string hP.uStr h3
    have hwt := weights_struct (parts := [y0.1, y1.1, y2.1, y3.1, y4.1, y5.1]) hS.uStep
    have hws : ∀ (i : Nat) (d : DataW H) (t : TypeId), [y0.1, y1.1, y2.1, y3.1, y4.1, y5.1][i]? = some d → [3, 9, 3, 9, 22, 24][i]? = some t → ∀ n ∈ d.weights P t, n ≤ reachBytes := by
      intro i d t hd ht n hn
      refine hwy n ?_
      show n ∈ (DataW.agg [y0.1, y1.1, y2.1, y3.1, y4.1, y5.1]).weights P 73
      rw [hwt]
      exact DataW.weights_mem_each (j := i) ht hd n hn
    obtain ⟨ga, Aa, la, ca, rfl, gawf, galen, galc, gar⟩ := open_argsN hP hA h4 (hws 4 _ _ rfl rfl)
    obtain ⟨gt, At, lt, ct, rfl, gtwf, gtlen, gtr⟩ := open_attrsN hP h5 (hws 5 _ _ rfl rfl)
    have hks : ∀ (i : Nat) (d : DataW H) (u : ByteArray), [y0.1, y1.1, y2.1, y3.1, y4.1, y5.1][i]? = some d → [3, 9, 3, 9, 22, 24][i]? = some 9 → d = .lit (.string u.data.toList) → u.size ≤ 140737488355328 := by
      intro i d u hd ht hu
      have hn : u.data.toList.length ≤ reachBytes := hws i d _ hd ht _ (by rw [hu, weights_str]; exact List.mem_cons_self ..)
      have hn := reach_le hn
      have : u.data.toList.length = u.size := Array.length_toList
      omega
    have hk1 := hks 1 _ s rfl rfl (by rw [ey1])
    have hk3 := hks 3 _ ms rfl rfl (by rw [ey3])
    obtain rfl : c0 = .int .i64 k := by simpa using e0
    obtain rfl : c1 = .string s := by simpa using e1
    obtain rfl : c2 = .int .i64 lv := by simpa using e2
    obtain rfl : c3 = .string ms := by simpa using e3
    have hsp := hspot (by omega)
    have hadd : ∀ i : Nat, i < 6 → (a.add ((len - (j + 1)) * 6)).add i = ⟨a.block, a.off + (len - (j + 1)) * 6 + i, none⟩ := by
      intro i _
      obtain ⟨ab, ao, asp⟩ := a
      simp only at hsp
      subst hsp
      unfold Addr.add
      split <;> split <;> simp_all
    have hc : ∀ (i : Nat) (v : Value), i < 6 → [Value.int .i64 k, .string s, .int .i64 lv, .string ms, .slice Aa la ca, .slice At lt ct][i]? = some v → w.cell? ⟨a.block, a.off + (len - (j + 1)) * 6 + i, none⟩ = some v := by
      intro i v hi hv
      rw [← hadd i hi, hcell i hi]
      exact hv
    refine ⟨⟨k, s, lv, ms, ga, gt⟩ :: r, ⟨⟨i64_bd wk, hk1, i64_bd wlv, hk3, gawf, galen, gtwf, gtlen⟩, rwf⟩, by simp [rlen], ?_⟩
    refine ⟨hc 0 _ (by omega) rfl, hc 1 _ (by omega) rfl, hc 2 _ (by omega) rfl, hc 3 _ (by omega) rfl, ⟨Aa, la, ca, hc 4 _ (by omega) rfl, galc, gar⟩, ⟨At, lt, ct, hc 5 _ (by omega) rfl, gtr⟩, ?_⟩
    rw [show a.off + (len - (j + 1)) * 6 + 6 = a.off + (len - j) * 6 by omega]
    exact rras

/-- A list of LogSteps among the arguments. -/
theorem open_steps {r : Reach} {b0 : Nat} {v : Value} {d : DataW H} {ps : List MemPlace} (hval : Value.okWide P w r b0 57 v) (h : DataW.Trod enc P w 0 sp held 57 v d ps)
    (hw : ∀ n ∈ d.weights P 57, n ≤ reachBytes) : ∃ (l : List GStep) (A : Option Addr) (len cap : Nat), v = .slice A len cap ∧ stepsWf l ∧ RStepS w l A len := by
  obtain ⟨a0, len0, cap0, rfl⟩ := okWide_slice hS.uSteps hval
  obtain ⟨fuel, hf⟩ := h
  have hf : DataW.trod enc P w 0 sp held fuel 57 [Value.slice a0 len0 cap0] = some (d, ps) := hf
  rcases DataW.trod_slice hS.uSteps hf with ⟨e4, _⟩ | ⟨a, len, cap, elems, rest, m, rfl, e4, ex, _, hlc, hcm, hle, hel, _, _⟩
  · obtain ⟨rfl, rfl, rfl⟩ : a0 = none ∧ len0 = 0 ∧ cap0 = 0 := by simpa using e4
    exact ⟨[], none, 0, 0, rfl, trivial, rfl, fun h => absurd h (by omega)⟩
  · obtain ⟨rfl, rfl, rfl⟩ : a0 = some a ∧ len0 = len ∧ cap0 = cap := by simpa using e4
    obtain rfl : d = _ := (Prod.mk.inj ex).1
    rw [weights_slice hS.uSteps, hS.bStep] at hw
    obtain ⟨l, lwf, llen, lras⟩ := open_selems hP hA hS hle hel (fun y hy k hk => hw k (by
      refine List.mem_cons_of_mem _ (List.mem_append_left _ (weightsAll_mem (List.mem_map.2 ⟨y, hy, rfl⟩) k hk)))) len0 (Nat.le_refl _)
    rw [Nat.sub_self, Nat.zero_mul, Nat.add_zero] at lras
    refine ⟨l, some a, len0, cap0, rfl, lwf, llen.symm, fun hp => ⟨a.block, a.off, ?_, lras⟩⟩
    have h := hel 0 hp
    rw [List.getElem?_eq_getElem (by omega), Option.bind_eq_some_iff] at h
    obtain ⟨cs, hcs, _⟩ := h
    rw [hS.cStep, Nat.zero_mul] at hcs
    have h2 := (World.cells?_some hcs).2.2 0 (by omega)
    have h3 := (World.cells?_some hcs).2.1
    rw [List.getElem?_eq_getElem (by omega)] at h2
    have := World.cell?_spot h2
    obtain ⟨ab, ao, asp⟩ := a
    have : asp = none := by simpa [Addr.add] using this
    rw [this]
end
end Go.Proofs.YtihhgnbgejjijaaGreatDoor.Va
