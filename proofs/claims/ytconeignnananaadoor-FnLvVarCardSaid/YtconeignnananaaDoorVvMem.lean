/- Steps with a LevelVar, and what they return: plain data, how they lie in memory, and a list of steps among the arguments, opened. -/
import Derived.Test.YtconeignnananaaDoorLvK
import Derived.Laws.OwnMore
namespace Go.Proofs.YtconeignnananaaDoor.Lv
open Go Go.Lib Go.RowKit Go.ChangeShapes Go.WideShapes

/-- A step with a LevelVar; what it returns. -/
structure GVs where
  act : Int
  level : Int
  text : ByteArray
structure VOut where
  level : Int
  text : ByteArray
  ok : Bool
abbrev i64B (n : Int) : Prop := -9223372036854775808 ≤ n ∧ n ≤ 9223372036854775807
/-- The level behind a step, and what it returns. -/
def lvNext (level : Int) (s : GVs) : Int := if s.act = 0 then s.level else if s.act = 5 then (levelOf s.text.data.toList).getD level else level
def varName (level : Int) : ByteArray := ⟨#[76, 101, 118, 101, 108, 86, 97, 114, 40]⟩ ++ lvName level ++ ⟨#[41]⟩
def lvOut (level : Int) (s : GVs) : VOut :=
  if s.act = 1 then ⟨level, ⟨#[]⟩, true⟩ else if s.act = 2 then ⟨0, varName level, true⟩ else if s.act = 3 then ⟨0, lvName level, true⟩ else if s.act = 4 then ⟨0, s.text ++ lvName level, true⟩ else if s.act = 5 then ⟨0, ⟨#[]⟩, (levelOf s.text.data.toList).isSome⟩ else ⟨0, ⟨#[]⟩, true⟩
def vPlay : Int → List GVs → List VOut
  | _, [] => []
  | n, s :: r => lvOut n s :: vPlay (lvNext n s) r
def vLast : Int → List GVs → Int
  | n, [] => n
  | n, s :: r => vLast (lvNext n s) r
theorem vPlay_len : ∀ (l : List GVs) (n : Int), (vPlay n l).length = l.length
  | [], _ => rfl
  | s :: r, n => by show (vPlay (lvNext n s) r).length + 1 = r.length + 1; rw [vPlay_len r]
theorem level_bound {l : List UInt8} {n : Int} (h : levelOf l = some n) : i64B n := by
  unfold levelOf at h
  split at h
  · cases h
  · rename_i b hb
    split at h
    · injection h with h
      subst h
      have := baseUp_bounds (l := (l.take (signAt l)).map upA) hb
      unfold i64B; omega
    · cases hn : numOf (l.drop (signAt l)) with
      | none => rw [hn] at h; cases h
      | some v =>
        rw [hn] at h
        injection h with h
        subst h
        show i64B (IntKind.i64.wrap (b + v))
        unfold i64B
        rw [IntKind.wrap_i64]
        omega
theorem lvNext_bound {n : Int} {s : GVs} (h : i64B n) (hs : i64B s.level) : i64B (lvNext n s) := by
  unfold lvNext
  split
  · exact hs
  · split
    · cases hn : levelOf s.text.data.toList with
      | none => exact h
      | some v => exact level_bound hn
    · exact h

/-- A row of steps from a place on; a slice. -/
def RVss (w : World) : List GVs → Nat → Nat → Prop
  | [], _, _ => True
  | s :: r, b, o => w.cell? ⟨b, o, none⟩ = some (.int .i64 s.act) ∧ w.cell? ⟨b, o + 1, none⟩ = some (.int .i64 s.level) ∧ w.cell? ⟨b, o + 2, none⟩ = some (.string s.text) ∧ RVss w r b (o + 3)
def RVsS (w : World) (l : List GVs) (A : Option Addr) (len : Nat) : Prop := len = l.length ∧ (0 < len → ∃ b o, A = some ⟨b, o, none⟩ ∧ RVss w l b o)
theorem RVss.below {w w' : World} (hb : Below w.heap.size w w') : ∀ (l : List GVs) (b o : Nat), RVss w l b o → RVss w' l b o
  | [], _, _, _ => trivial
  | s :: r, b, o, h => by
    obtain ⟨h0, h1, h2, hr⟩ := h
    have hk : ∀ {p : Addr} {v : Value}, w.cell? p = some v → w'.cell? p = some v := fun {p} {v} e => (hb.cell (World.block_lt_of_cell? w _ e)).trans e
    exact ⟨hk h0, hk h1, hk h2, RVss.below hb r b (o + 3) hr⟩
theorem RVsS.below {w w' : World} {l : List GVs} {A : Option Addr} {len : Nat} (h : RVsS w l A len) (hb : Below w.heap.size w w') : RVsS w' l A len :=
  ⟨h.1, fun hp => by obtain ⟨b, o, e, hr⟩ := h.2 hp; exact ⟨b, o, e, RVss.below hb l b o hr⟩⟩
def vsWf : List GVs → Prop
  | [] => True
  | s :: r => (i64B s.act ∧ i64B s.level ∧ s.text.size ≤ 140737488355328) ∧ vsWf r
/-- What is returned, cell by cell. -/
def oCells : List VOut → List Value
  | [] => []
  | o :: r => .int .i64 o.level :: .string o.text :: .bool o.ok :: oCells r
theorem oCells_len : ∀ l : List VOut, (oCells l).length = l.length * 3
  | [] => rfl
  | o :: r => by show (oCells r).length + 1 + 1 + 1 = (r.length + 1) * 3; rw [oCells_len r]; omega
theorem oCells_snoc (o : VOut) : ∀ l : List VOut, oCells (l ++ [o]) = oCells l ++ [.int .i64 o.level, .string o.text, .bool o.ok]
  | [] => rfl
  | a :: r => by show _ :: _ :: _ :: oCells (r ++ [o]) = _; rw [oCells_snoc o r]; rfl
def ROuts (w : World) : List VOut → Nat → Nat → Prop
  | [], _, _ => True
  | s :: r, b, o => w.cell? ⟨b, o, none⟩ = some (.int .i64 s.level) ∧ w.cell? ⟨b, o + 1, none⟩ = some (.string s.text) ∧ w.cell? ⟨b, o + 2, none⟩ = some (.bool s.ok) ∧ ROuts w r b (o + 3)
def ROutS (w : World) (l : List VOut) (A : Option Addr) (len : Nat) : Prop := len = l.length ∧ (0 < len → ∃ b o, A = some ⟨b, o, none⟩ ∧ ROuts w l b o)
theorem ROuts.below {w w' : World} (hb : Below w.heap.size w w') : ∀ (l : List VOut) (b o : Nat), ROuts w l b o → ROuts w' l b o
  | [], _, _, _ => trivial
  | s :: r, b, o, h => by
    obtain ⟨h0, h1, h2, hr⟩ := h
    have hk : ∀ {p : Addr} {v : Value}, w.cell? p = some v → w'.cell? p = some v := fun {p} {v} e => (hb.cell (World.block_lt_of_cell? w _ e)).trans e
    exact ⟨hk h0, hk h1, hk h2, ROuts.below hb r b (o + 3) hr⟩
theorem ROutS.below {w w' : World} {l : List VOut} {A : Option Addr} {len : Nat} (h : ROutS w l A len) (hb : Below w.heap.size w w') : ROutS w' l A len :=
  ⟨h.1, fun hp => by obtain ⟨b, o, e, hr⟩ := h.2 hp; exact ⟨b, o, e, ROuts.below hb l b o hr⟩⟩
theorem ROuts.of {w : World} : ∀ (l : List VOut) (b o : Nat), (∀ j u, (oCells l)[j]? = some u → w.cell? ⟨b, o + j, none⟩ = some u) → ROuts w l b o
  | [], _, _, _ => trivial
  | s :: r, b, o, h => ⟨h 0 _ rfl, h 1 _ rfl, h 2 _ rfl, ROuts.of r b (o + 3) fun j u hj => by
      have := h (j + 3) u (by simpa [oCells] using hj)
      rwa [show o + 3 + j = o + (j + 3) by omega]⟩
theorem outs_of_owns {w : World} {base : Nat} {e : TypeId} {l : List VOut} {v : Value} {n : Nat} (h : w.ownsRow base e 3 v n (oCells l)) : ∃ A cap, v = .slice A n cap ∧ ROutS w l A n := by
  have hl := oCells_len l
  have h1 := h.1
  rcases h.2 with ⟨rfl, rfl⟩ | ⟨g, cap, cur, rfl, hb, hg, hnc, hcm, hcs, htake⟩
  · exact ⟨none, 0, rfl, by omega, fun h => absurd h (by omega)⟩
  · refine ⟨_, cap, rfl, by omega, fun h0 => ⟨g, 0, rfl, ROuts.of l g 0 fun j u hu => ?_⟩⟩
    have h3 := h.cells (g := g) rfl j u hu
    rw [show (⟨g, 0, none⟩ : Addr).add j = ⟨g, j, none⟩ by unfold Addr.add; split <;> simp_all] at h3
    rw [Nat.zero_add]
    exact h3

/-- What is asked of a program: the form of VarStep. -/
structure VsFacts (P : Program) : Prop where
  uStep : P.underlying 36 = some (.struct #[{ name := "Do", type := 3, offset := 0, embedded := false, tag := "", pkgPath := "", byteOffset := 0 }, { name := "Level", type := 3, offset := 1, embedded := false, tag := "", pkgPath := "", byteOffset := 8 }, { name := "Text", type := 9, offset := 2, embedded := false, tag := "", pkgPath := "", byteOffset := 16 }])
  uSteps : P.underlying 33 = some (.slice 36)
  uInt : P.underlying 3 = some (.int .i64)
  uStr : P.underlying 9 = some .string
  cStep : P.cellsOf 36 = 3
  cInt : P.cellsOf 3 = 1
  cStr : P.cellsOf 9 = 1
  bStep : P.bytesOf 36 = 32
theorem vsFacts : VsFacts Tryd.prog := ⟨by kernel_rfl, by kernel_rfl, by kernel_rfl, by kernel_rfl, by kernel_rfl, by kernel_rfl, by kernel_rfl, by kernel_rfl⟩
theorem three : ∀ {α : Type} {cs : List α}, cs.length = 3 → ∃ a b c, cs = [a, b, c]
  | _, [a, b, c], _ => ⟨a, b, c, rfl⟩

section
variable {P : Program} {H : Type} {enc : TypeId × Value → H} {w : World} {sp : Nat → Bool} {held : Bool}
theorem weights_structV {t : TypeId} {fs : Array Field} {parts : List (DataW H)} (ht : P.underlying t = some (.struct fs)) : (DataW.agg parts).weights P t = DataW.weightsEach P (fs.toList.map (·.type)) parts := by
  simp [DataW.weights, ht]
theorem weights_sliceV {t e : TypeId} {elems spare : List (DataW H)} (ht : P.underlying t = some (.slice e)) : (DataW.slice elems spare).weights P t = (elems.length + spare.length) * P.bytesOf e :: (DataW.weightsAll P e elems ++ DataW.weightsAll P e spare) := by
  simp [DataW.weights, ht]
theorem weightsAll_memV {e : TypeId} : ∀ {l : List (DataW H)} {d : DataW H}, d ∈ l → ∀ n ∈ d.weights P e, n ∈ DataW.weightsAll P e l
  | a :: r, d, h, n, hn => by
    simp only [DataW.weightsAll, List.mem_append]
    rcases List.mem_cons.1 h with rfl | h
    · exact .inl hn
    · exact .inr (weightsAll_memV h n hn)
theorem reach_leV {n : Nat} (h : n ≤ reachBytes) : n ≤ 140737488355328 := by unfold reachBytes at h; omega
theorem weights_strV {s : List UInt8} (hS : VsFacts P) : (DataW.lit (.string s) : DataW H).weights P 9 = [s.length] := by
  simp [DataW.weights, hS.uStr]
variable (hS : VsFacts P)
include hS
/-- The elements of a list of steps, from the last one on. -/
theorem open_velems {m : Nat} {a : Addr} {len : Nat} {elems : List (DataW H × List MemPlace)} (hle : elems.length = len)
    (hel : ∀ i, i < len → (w.cells? 0 (a.add (i * P.cellsOf 36)) (P.cellsOf 36)).bind (DataW.trod enc P w 0 sp held m 36) = elems[i]?)
    (hw : ∀ y ∈ elems, ∀ n ∈ y.1.weights P 36, n ≤ reachBytes) :
    ∀ j, j ≤ len → ∃ l : List GVs, vsWf l ∧ l.length = j ∧ RVss w l a.block (a.off + (len - j) * 3) := by
  have hspot : 0 < len → a.spot = none := by
    intro h0
    have h := hel 0 h0
    rw [List.getElem?_eq_getElem (by omega), Option.bind_eq_some_iff] at h
    obtain ⟨cs, hcs, _⟩ := h
    rw [hS.cStep, Nat.zero_mul] at hcs
    have h2 := (World.cells?_some hcs).2.2 0 (by omega)
    have h3 := (World.cells?_some hcs).2.1
    rw [List.getElem?_eq_getElem (by omega)] at h2
    have := World.cell?_spot h2
    simpa [Addr.add] using this
  intro j
  induction j with
  | zero => intro _; exact ⟨[], trivial, rfl, trivial⟩
  | succ j ihj =>
    intro hj
    obtain ⟨r, rwf, rlen, rras⟩ := ihj (by omega)
    have hi : len - (j + 1) < len := by omega
    have h := hel (len - (j + 1)) hi
    rw [List.getElem?_eq_getElem (by omega), Option.bind_eq_some_iff] at h
    obtain ⟨cs, hcs, hy⟩ := h
    rw [hS.cStep] at hcs
    obtain ⟨_, hclen, hcell⟩ := World.cells?_some hcs
    have hmem := List.getElem_mem (l := elems) (n := len - (j + 1)) (by omega)
    have hwy := hw _ hmem
    generalize elems[len - (j + 1)] = y at hy hwy
    obtain ⟨xs, m', rfl, rfl, hl, hxl, hf⟩ := DataW.trod_struct hS.uStep hy
    obtain ⟨y0, y1, y2, rfl⟩ := three hxl
    rw [hS.cStep] at hl
    obtain ⟨c0, c1, c2, rfl⟩ := three hl
    have h0 : DataW.trod enc P w 0 sp held m' 3 (([c0, c1, c2].drop 0).take (P.cellsOf 3)) = some y0 := hf 0 _ rfl
    have h1 : DataW.trod enc P w 0 sp held m' 3 (([c0, c1, c2].drop 1).take (P.cellsOf 3)) = some y1 := hf 1 _ rfl
    have h2 : DataW.trod enc P w 0 sp held m' 9 (([c0, c1, c2].drop 2).take (P.cellsOf 9)) = some y2 := hf 2 _ rfl
    rw [hS.cInt] at h0 h1
    rw [hS.cStr] at h2
    have h0 : DataW.trod enc P w 0 sp held m' 3 [c0] = some y0 := h0
    have h1 : DataW.trod enc P w 0 sp held m' 3 [c1] = some y1 := h1
    have h2 : DataW.trod enc P w 0 sp held m' 9 [c2] = some y2 := h2
    obtain ⟨k, e0, _, wk⟩ := DataW.trod_int hS.uInt h0
    obtain ⟨lv, e1, _, wlv⟩ := DataW.trod_int hS.uInt h1
    obtain ⟨s, e2, ey2, ws⟩ := DataW.trod_string hS.uStr h2
    have hwt := weights_structV (parts := [y0.1, y1.1, y2.1]) hS.uStep
    have hks : s.size ≤ 140737488355328 := by
      have hn : s.data.toList.length ≤ reachBytes := hwy _ (by
        show _ ∈ (DataW.agg [y0.1, y1.1, y2.1]).weights P 36
        rw [hwt]
        refine DataW.weights_mem_each (j := 2) (t := 9) (d := y2.1) rfl rfl _ ?_
        rw [ey2]
        show _ ∈ (DataW.lit (.string s.data.toList) : DataW H).weights P 9
        rw [weights_strV hS]
        exact List.mem_cons_self ..)
      have hn := reach_leV hn
      have : s.data.toList.length = s.size := Array.length_toList
      omega
    obtain rfl : c0 = .int .i64 k := by simpa using e0
    obtain rfl : c1 = .int .i64 lv := by simpa using e1
    obtain rfl : c2 = .string s := by simpa using e2
    have hsp := hspot (by omega)
    have hadd : ∀ i : Nat, i < 3 → (a.add ((len - (j + 1)) * 3)).add i = ⟨a.block, a.off + (len - (j + 1)) * 3 + i, none⟩ := by
      intro i _
      obtain ⟨ab, ao, asp⟩ := a
      simp only at hsp
      subst hsp
      unfold Addr.add
      split <;> split <;> simp_all
    have hc : ∀ (i : Nat) (v : Value), i < 3 → [Value.int .i64 k, .int .i64 lv, .string s][i]? = some v → w.cell? ⟨a.block, a.off + (len - (j + 1)) * 3 + i, none⟩ = some v := by
      intro i v hi hv
      rw [← hadd i hi, hcell i hi]
      exact hv
    refine ⟨⟨k, lv, s⟩ :: r, ⟨⟨⟨i64_ge wk, i64_le wk⟩, ⟨i64_ge wlv, i64_le wlv⟩, hks⟩, rwf⟩, by simp [rlen], ?_⟩
    refine ⟨hc 0 _ (by omega) rfl, hc 1 _ (by omega) rfl, hc 2 _ (by omega) rfl, ?_⟩
    rw [show a.off + (len - (j + 1)) * 3 + 3 = a.off + (len - j) * 3 by omega]
    exact rras

/-- A list of VarSteps among the arguments. -/
theorem open_vsteps {r : Reach} {b0 : Nat} {v : Value} {d : DataW H} {ps : List MemPlace} (hval : Value.okWide P w r b0 33 v) (h : DataW.Trod enc P w 0 sp held 33 v d ps)
    (hw : ∀ n ∈ d.weights P 33, n ≤ reachBytes) : ∃ (l : List GVs) (A : Option Addr) (len cap : Nat), v = .slice A len cap ∧ vsWf l ∧ l.length ≤ 140737488355328 ∧ RVsS w l A len := by
  obtain ⟨a0, len0, cap0, rfl⟩ := okWide_slice hS.uSteps hval
  obtain ⟨fuel, hf⟩ := h
  have hf : DataW.trod enc P w 0 sp held fuel 33 [Value.slice a0 len0 cap0] = some (d, ps) := hf
  rcases DataW.trod_slice hS.uSteps hf with ⟨e4, _⟩ | ⟨a, len, cap, elems, rest, m, rfl, e4, ex, _, hlc, hcm, hle, hel, _, _⟩
  · obtain ⟨rfl, rfl, rfl⟩ : a0 = none ∧ len0 = 0 ∧ cap0 = 0 := by simpa using e4
    exact ⟨[], none, 0, 0, rfl, trivial, by simp, rfl, fun h => absurd h (by omega)⟩
  · obtain ⟨rfl, rfl, rfl⟩ : a0 = some a ∧ len0 = len ∧ cap0 = cap := by simpa using e4
    obtain rfl : d = _ := (Prod.mk.inj ex).1
    rw [weights_sliceV hS.uSteps, hS.bStep] at hw
    obtain ⟨l, lwf, llen, lras⟩ := open_velems hS hle hel (fun y hy k hk => hw k (by
      refine List.mem_cons_of_mem _ (List.mem_append_left _ (weightsAll_memV (List.mem_map.2 ⟨y, hy, rfl⟩) k hk)))) len0 (Nat.le_refl _)
    have hln := hw _ (List.mem_cons_self ..)
    have hln := reach_leV hln
    rw [List.length_map, hle] at hln
    rw [Nat.sub_self, Nat.zero_mul, Nat.add_zero] at lras
    refine ⟨l, some a, len0, cap0, rfl, lwf, by omega, llen.symm, fun hp => ⟨a.block, a.off, ?_, lras⟩⟩
    have h := hel 0 hp
    rw [List.getElem?_eq_getElem (by omega), Option.bind_eq_some_iff] at h
    obtain ⟨cs, hcs, _⟩ := h
    rw [hS.cStep, Nat.zero_mul] at hcs
    have h2 := (World.cells?_some hcs).2.2 0 (by omega)
    have h3 := (World.cells?_some hcs).2.1
    rw [List.getElem?_eq_getElem (by omega)] at h2
    have := World.cell?_spot h2
    obtain ⟨ab, ao, asp⟩ := a
    have : asp = none := by simpa [Addr.add] using this
    rw [this]
end
end Go.Proofs.YtconeignnananaaDoor.Lv
