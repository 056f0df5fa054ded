/- A list of Args among the arguments, opened. -/
import Derived.Test.YtihhgnbgejjijaaGreatDoorOpen
import Derived.Test.YtihhgnbgejjijaaGreatDoorRcArgs
namespace Go.Proofs.YtihhgnbgejjijaaGreatDoor.Va
open Go Go.RowKit Go.ChangeShapes Go.WideShapes

/-- What is asked of a program: the form of Arg. -/
structure ArgFacts (P : Program) : Prop where
  uArg : P.underlying 37 = some (.struct #[{ name := "What", type := 3, offset := 0, embedded := false, tag := "", pkgPath := "", byteOffset := 0 }, { name := "Key", type := 9, offset := 1, embedded := false, tag := "", pkgPath := "", byteOffset := 8 }, { name := "Val", type := 33, offset := 2, embedded := false, tag := "", pkgPath := "", byteOffset := 24 }])
  uArgs : P.underlying 22 = some (.slice 37)
  cArg : P.cellsOf 37 = 9
  bArg : P.bytesOf 37 = 104
theorem argFacts : ArgFacts Tryz.prog := ⟨by kernel_rfl, by kernel_rfl, by kernel_rfl, by kernel_rfl⟩
theorem list9 : ∀ {cs : List Value}, cs.length = 9 → ∃ a b c d e f g h i, cs = [a, b, c, d, e, f, g, h, i]
  | [a, b, c, d, e, f, g, h, i], _ => ⟨a, b, c, d, e, f, g, h, i, rfl⟩

section
variable {P : Program} {H : Type} {enc : TypeId × Value → H} {w : World} {sp : Nat → Bool} {held : Bool}
variable (hP : ValFacts P) (hA : ArgFacts P)
include hP hA

/-- The elements of a list of arguments, from the last one on. -/
theorem open_aelems {m : Nat} {a : Addr} {len : Nat} {elems : List (DataW H × List MemPlace)} (hle : elems.length = len)
    (hel : ∀ i, i < len → (w.cells? 0 (a.add (i * P.cellsOf 37)) (P.cellsOf 37)).bind (DataW.trod enc P w 0 sp held m 37) = elems[i]?)
    (hw : ∀ y ∈ elems, ∀ n ∈ y.1.weights P 37, n ≤ reachBytes) :
    ∀ j, j ≤ len → ∃ l : List GArg, argsWf l ∧ l.length = j ∧ RArgs w l a.block (a.off + (len - j) * 9) := by
  have hspot : 0 < len → a.spot = none := by
    intro h0
    have h := hel 0 h0
    rw [List.getElem?_eq_getElem (by omega), Option.bind_eq_some_iff] at h
    obtain ⟨cs, hcs, _⟩ := h
    rw [hA.cArg, Nat.zero_mul] at hcs
    have h2 := (World.cells?_some hcs).2.2 0 (by omega)
    have h3 := (World.cells?_some hcs).2.1
    rw [List.getElem?_eq_getElem (by omega)] at h2
    have := World.cell?_spot h2
    simpa [Addr.add] using this
  intro j
  induction j with
  | zero => intro _; exact ⟨[], trivial, rfl, trivial⟩
  | succ j ihj =>
    intro hj
    obtain ⟨r, rwf, rlen, rras⟩ := ihj (by omega)
    have hi : len - (j + 1) < len := by omega
    have h := hel (len - (j + 1)) hi
    rw [List.getElem?_eq_getElem (by omega), Option.bind_eq_some_iff] at h
    obtain ⟨cs, hcs, hy⟩ := h
    rw [hA.cArg] at hcs
    obtain ⟨_, hclen, hcell⟩ := World.cells?_some hcs
    have hmem := List.getElem_mem (l := elems) (n := len - (j + 1)) (by omega)
    have hwy := hw _ hmem
    generalize elems[len - (j + 1)] = y at hy hwy
    obtain ⟨y0, y1, y2, m', rfl, hl, h0, h1, h2⟩ := Deep.trod_struct3 hA.uArg hy
    rw [hA.cArg] at hl
    obtain ⟨c0, c1, c2, c3, c4, c5, c6, c7, c8, rfl⟩ := list9 hl
    dsimp only at h0 h1 h2
    rw [hP.cInt] at h0
    rw [hP.cStr] at h1
    rw [hP.cVal] at h2
    have h0 : DataW.trod enc P w 0 sp held m' 3 [c0] = some y0 := h0
    have h1 : DataW.trod enc P w 0 sp held m' 9 [c1] = some y1 := h1
    have h2 : DataW.trod enc P w 0 sp held m' 33 [c2, c3, c4, c5, c6, c7, c8] = some y2 := h2
    obtain ⟨k, e0, _, wk⟩ := DataW.trod_int hP.uInt h0
    obtain ⟨s, e1, ey1, ws⟩ := DataW.trod_string hP.uStr h1
    have hwt := weights_struct (parts := [y0.1, y1.1, y2.1]) hA.uArg
    obtain ⟨g, A, ln, cap, gwf, ecs, grs⟩ := open_valL hP m' _ y2 h2 (fun n hn => hwy n (by
      show n ∈ (DataW.agg [y0.1, y1.1, y2.1]).weights P 37
      rw [hwt]; exact DataW.weights_mem_each (j := 2) rfl rfl n hn))
    have hks : s.size ≤ 140737488355328 := by
      have hn : s.data.toList.length ≤ reachBytes := hwy _ (by
        show _ ∈ (DataW.agg [y0.1, y1.1, y2.1]).weights P 37
        rw [hwt]; exact DataW.weights_mem_each (j := 1) rfl rfl _ (by rw [ey1, weights_str]; exact List.mem_cons_self ..))
      have hn := reach_le hn
      have : s.data.toList.length = s.size := Array.length_toList
      omega
    obtain rfl : c0 = .int .i64 k := by simpa using e0
    obtain rfl : c1 = .string s := by simpa using e1
    simp only [List.cons.injEq, and_true] at ecs
    obtain ⟨rfl, rfl, rfl, rfl, rfl, rfl, rfl⟩ := ecs
    have hsp := hspot (by omega)
    have hadd : ∀ i : Nat, i < 9 → (a.add ((len - (j + 1)) * 9)).add i = ⟨a.block, a.off + (len - (j + 1)) * 9 + i, none⟩ := by
      intro i _
      obtain ⟨ab, ao, asp⟩ := a
      simp only at hsp
      subst hsp
      unfold Addr.add
      split <;> split <;> simp_all
    have hc : ∀ (i : Nat) (v : Value), i < 9 → [Value.int .i64 k, .string s, .int .i64 g.kind, .int .u64 g.n, .string g.s, .int .i64 g.t.sec, .int .i64 g.t.nsec, .int .i64 g.t.off, .slice A ln cap][i]? = some v → w.cell? ⟨a.block, a.off + (len - (j + 1)) * 9 + i, none⟩ = some v := by
      intro i v hi hv
      rw [← hadd i hi, hcell i hi]
      exact hv
    refine ⟨⟨k, s, g⟩ :: r, ⟨⟨i64_bd wk, hks, gwf⟩, rwf⟩, by simp [rlen], ?_⟩
    obtain ⟨gk, gn, gs, gt, gl⟩ := g
    refine ⟨hc 0 _ (by omega) rfl, hc 1 _ (by omega) rfl, ?_, ?_⟩
    · unfold RVal
      exact ⟨hc 2 _ (by omega) rfl, hc 3 _ (by omega) rfl, hc 4 _ (by omega) rfl, hc 5 _ (by omega) rfl, hc 6 _ (by omega) rfl, hc 7 _ (by omega) rfl, A, ln, cap, hc 8 _ (by omega) rfl, grs.1, grs.2⟩
    · rw [show a.off + (len - (j + 1)) * 9 + 9 = a.off + (len - j) * 9 by omega]
      exact rras

/-- A list of Args among the arguments. -/
theorem open_args {r : Reach} {b0 : Nat} {v : Value} {d : DataW H} {ps : List MemPlace} (hval : Value.okWide P w r b0 22 v) (h : DataW.Trod enc P w 0 sp held 22 v d ps)
    (hw : ∀ n ∈ d.weights P 22, n ≤ reachBytes) : ∃ (l : List GArg) (A : Option Addr) (len cap : Nat), v = .slice A len cap ∧ argsWf l ∧ l.length ≤ 140737488355328 ∧ len ≤ cap ∧ RArgS w l A len := by
  obtain ⟨a0, len0, cap0, rfl⟩ := okWide_slice hA.uArgs hval
  obtain ⟨fuel, hf⟩ := h
  have hf : DataW.trod enc P w 0 sp held fuel 22 [Value.slice a0 len0 cap0] = some (d, ps) := hf
  rcases DataW.trod_slice hA.uArgs hf with ⟨e4, _⟩ | ⟨a, len, cap, elems, rest, m, rfl, e4, ex, _, hlc, hcm, hle, hel, _, _⟩
  · obtain ⟨rfl, rfl, rfl⟩ : a0 = none ∧ len0 = 0 ∧ cap0 = 0 := by simpa using e4
    exact ⟨[], none, 0, 0, rfl, trivial, by simp, Nat.le_refl _, rfl, fun h => absurd h (by omega)⟩
  · obtain ⟨rfl, rfl, rfl⟩ : a0 = some a ∧ len0 = len ∧ cap0 = cap := by simpa using e4
    obtain rfl : d = _ := (Prod.mk.inj ex).1
    rw [weights_slice hA.uArgs, hA.bArg] at hw
    obtain ⟨l, lwf, llen, lras⟩ := open_aelems hP hA hle hel (fun y hy k hk => hw k (by
      refine List.mem_cons_of_mem _ (List.mem_append_left _ (weightsAll_mem (List.mem_map.2 ⟨y, hy, rfl⟩) k hk)))) len0 (Nat.le_refl _)
    have hln := hw _ (List.mem_cons_self ..)
    have hln := reach_le hln
    rw [List.length_map, hle] at hln
    rw [Nat.sub_self, Nat.zero_mul, Nat.add_zero] at lras
    refine ⟨l, some a, len0, cap0, rfl, lwf, by omega, hlc, llen.symm, fun hp => ⟨a.block, a.off, ?_, lras⟩⟩
    have h := hel 0 hp
    rw [List.getElem?_eq_getElem (by omega), Option.bind_eq_some_iff] at h
    obtain ⟨cs, hcs, _⟩ := h
    rw [hA.cArg, Nat.zero_mul] at hcs
    have h2 := (World.cells?_some hcs).2.2 0 (by omega)
    have h3 := (World.cells?_some hcs).2.1
    rw [List.getElem?_eq_getElem (by omega)] at h2
    have := World.cell?_spot h2
    obtain ⟨ab, ao, asp⟩ := a
    have : asp = none := by simpa [Addr.add] using this
    rw [this]
end
end Go.Proofs.YtihhgnbgejjijaaGreatDoor.Va
