/- The reader of levels: (*Level).parse: the walks. -/
import Derived.Test.YtconeignnananaaDoorLvH
namespace Go.Proofs.YtconeignnananaaDoor.Lv
set_option linter.unusedVariables false
set_option linter.unusedSimpArgs false
open Go Go.Lib Go.RowKit

theorem var_below {P : Program} {W w : World} {n : String} {cs : Array Value} (h : W.var? P n = some cs) (hb : Below W.heap.size W w) : w.var? P n = some cs := by
  unfold World.var? at h ⊢
  cases hg : P.globalNamed n with
  | none => simp [hg] at h
  | some g =>
    simp only [hg, Option.bind_some] at h ⊢
    have hlt : g < W.heap.size := by
      rcases Nat.lt_or_ge g W.heap.size with h' | h'
      · exact h'
      · simp [Array.getElem?_eq_none h'] at h
    rw [hb.block g hlt]
    exact h

/-- The variables of the library that the reader of levels reads. -/
structure Env (w : World) : Prop where
  print : PrintTabsAt 9 10 11 12 goPrintTabs w
  utf8 : Utf8Tabs 2 3 w
  bad : ∃ (a : Addr) (t : ByteArray), w.var? Tryd.prog "strconv.ErrSyntax" = some #[.iface 90 (.pointer (some a))] ∧ w.cell? a = some (.string t) ∧ t.size ≤ 1000
  far : ∃ (a : Addr) (t : ByteArray), w.var? Tryd.prog "strconv.ErrRange" = some #[.iface 90 (.pointer (some a))] ∧ w.cell? a = some (.string t) ∧ t.size ≤ 1000
theorem Env.on {W w : World} (h : Env W) (hb : Below W.heap.size W w) : Env w where
  print := printTabs_below h.print hb
  utf8 := Utf8Tabs_below h.utf8 hb
  bad := let ⟨a, t, h1, h2, h3⟩ := h.bad; ⟨a, t, var_below h1 hb, (hb.cell (World.block_lt_of_cell? _ _ h2)).trans h2, h3⟩
  far := let ⟨a, t, h1, h2, h3⟩ := h.far; ⟨a, t, var_below h1 hb, (hb.cell (World.block_lt_of_cell? _ _ h2)).trans h2, h3⟩

theorem atoi_bad (s : ByteArray) (hs : s.size ≤ 1000000) (h : numOf s.data.toList = none) (h2 : atoiAll s.data.toList ≠ .range) (w : World) (a : Addr) (hv : w.var? Tryd.prog "strconv.ErrSyntax" = some #[.iface 90 (.pointer (some a))]) :
    Calls Tryd.prog 56 #[.string s] w fun e w' => ∃ N, e = .returned (.tuple #[.int .i64 0, .iface 113 (.pointer (some ⟨N, 0, none⟩))]) ∧ w.heap.size ≤ N ∧ w'.heap[N]? = some (.cells #[.string ⟨#[65, 116, 111, 105]⟩, .string s, .iface 90 (.pointer (some a))] 134 (0, 0)) ∧ Below w.heap.size w w' :=
  Any.strconv_Atoi_syntax_var Tryd.laysC172 s (by omega) (by
    unfold numOf at h
    cases e : atoiAll s.data.toList
    · rw [e] at h; cases h
    · rfl
    · exact absurd e h2) 90 (.pointer (some a)) w hv
theorem atoi_far (s : ByteArray) (hs : s.size ≤ 1000000) (h2 : atoiAll s.data.toList = .range) (w : World) (a : Addr) (hv : w.var? Tryd.prog "strconv.ErrRange" = some #[.iface 90 (.pointer (some a))]) :
    Calls Tryd.prog 56 #[.string s] w fun e w' => ∃ N, e = .returned (.tuple #[.int .i64 (Lib.atoiSat s.data.toList), .iface 113 (.pointer (some ⟨N, 0, none⟩))]) ∧ w.heap.size ≤ N ∧ w'.heap[N]? = some (.cells #[.string ⟨#[65, 116, 111, 105]⟩, .string s, .iface 90 (.pointer (some a))] 134 (0, 0)) ∧ Below w.heap.size w w' :=
  Any.strconv_Atoi_range_var Tryd.laysC172 s (by omega) h2 90 (.pointer (some a)) w hv

/-- What strconv.Atoi hands back. -/
def AtoiPost (s : ByteArray) (W w : World) (e : Ending) (w' : World) : Prop := Below w.heap.size w w' ∧ match numOf s.data.toList with
  | some v => e = .returned (.tuple #[.int .i64 v, .nilIface])
  | none => ∃ (x : Int) (N : Nat) (a : Addr) (t : ByteArray), e = .returned (.tuple #[.int .i64 x, .iface 113 (.pointer (some ⟨N, 0, none⟩))]) ∧ w.heap.size ≤ N ∧ W.cell? a = some (.string t) ∧ t.size ≤ 1000 ∧
      w'.heap[N]? = some (.cells #[.string ⟨#[65, 116, 111, 105]⟩, .string s, .iface 90 (.pointer (some a))] 134 (0, 0))

theorem atoi_any (s : ByteArray) (hs : s.size ≤ 1000000) (W w : World) (hE : Env W) (hB : Below W.heap.size W w) : Calls Tryd.prog 56 #[.string s] w (AtoiPost s W w) := by
  obtain ⟨a1, t1, v1, c1, z1⟩ := hE.bad
  obtain ⟨a2, t2, v2, c2, z2⟩ := hE.far
  unfold AtoiPost
  cases h : numOf s.data.toList with
  | some v =>
    have h2 : atoiAll s.data.toList = .ok v := by
      unfold numOf at h
      cases e : atoiAll s.data.toList
      · rw [e] at h; exact congrArg _ (Option.some.inj h)
      · rw [e] at h; cases h
      · rw [e] at h; cases h
    refine (Tryd.strconv_Atoi_ok s (by omega) v h2 w).mono ?_
    rintro e w' ⟨rfl, hw⟩
    refine ⟨?_, rfl⟩
    rcases hw with rfl | ⟨t, rfl⟩
    · exact Below.refl _ _
    · exact bytesWorld_below _ _ _
  | none =>
    by_cases h2 : atoiAll s.data.toList = .range
    · refine (atoi_far s hs h2 w a2 (var_below v2 hB)).mono ?_
      rintro e w' ⟨N, rfl, hn, hN, hb⟩
      exact ⟨hb, _, N, a2, t2, rfl, hn, c2, z2, hN⟩
    · refine (atoi_bad s hs h h2 w a1 (var_below v1 hB)).mono ?_
      rintro e w' ⟨N, rfl, hn, hN, hb⟩
      exact ⟨hb, _, N, a1, t1, rfl, hn, c1, z1, hN⟩

theorem up_eq (b : UInt8) (h : b.toNat < 128) : upperB b = upA b := by
  unfold upA
  by_cases hl : 97 ≤ b.toNat ∧ b.toNat ≤ 122
  · rw [if_pos hl]
    have h1 : isLowerB b = true := by
      unfold isLowerB
      simp only [Bool.and_eq_true, decide_eq_true_eq]
      first | exact ⟨hl.1, hl.2⟩ | (constructor <;> (rw [UInt8.le_iff_toNat_le]; simp; omega))
    have h2 := upperB_int b h1
    apply UInt8.toNat_inj.1
    rw [UInt8.toNat_ofNat']
    omega
  · rw [if_neg hl]
    refine upperB_of_not b ?_
    cases hq : isLowerB b with
    | false => rfl
    | true =>
      exfalso
      unfold isLowerB at hq
      simp only [Bool.and_eq_true, decide_eq_true_eq] at hq
      first | exact hl hq | (have h3 := hq.1; have h4 := hq.2; rw [UInt8.le_iff_toNat_le] at h3 h4; simp at h3 h4; omega)

theorem upper_any (s : ByteArray) (w : World) (hs : s.size ≤ 1000000) (ha : ∀ b ∈ s.data.toList, b.toNat < 128) :
    Calls Tryd.prog 57 #[.string s] w fun e w' => e = .returned (.string ⟨(s.data.toList.map upA).toArray⟩) ∧ Below w.heap.size w w' := by
  have h := Tryd.strings_ToUpper_ascii s w (by omega) fun j b hj => ha b (List.mem_of_getElem? hj)
  have e : Lib.toUpperA s.data.toList = s.data.toList.map upA := List.map_congr_left fun b hb => up_eq b (ha b hb)
  rw [e] at h
  exact h

/-- What reading a level does: the cell of block b is the level, or there is an error, and nothing is written. -/
def ReadPost (l : List UInt8) (b : Nat) (w : World) (e : Ending) (w' : World) : Prop := match levelOf l with
  | some v => e = .returned .nilIface ∧ w'.cell? ⟨b, 0, none⟩ = some (.int .i64 v) ∧ But b w w'
  | none => ∃ t x, e = .returned (.iface t x) ∧ Below w.heap.size w w'

/-- The memory of a call of parse: the level's box b, its own two boxes. -/
def Bx (w : World) (s : ByteArray) (b : Nat) (old ev : Value) (w1 : World) : Prop :=
  w1.cell? ⟨b, 0, none⟩ = some old ∧ w1.frozen? ⟨b, 0, none⟩ = false ∧ w1.cell? ⟨w.heap.size, 0, none⟩ = some (.string s) ∧ w1.cell? ⟨w.heap.size + 1, 0, none⟩ = some ev ∧ w1.frozen? ⟨w.heap.size + 1, 0, none⟩ = false ∧
      w.heap.size + 1 < w1.heap.size ∧ b ≠ w.heap.size + 1 ∧ Hid (Below w.heap.size w w1)

theorem box_ne {b n : Nat} (h : b ≠ n) : (⟨b, 0, none⟩ : Addr) ≠ ⟨n, 0, none⟩ := fun e => h (congrArg Addr.block e)

theorem Bx.start {w : World} {b : Nat} {old : Value} (s : ByteArray) (hc : w.cell? ⟨b, 0, none⟩ = some old) (hf : w.frozen? ⟨b, 0, none⟩ = false) :
    Bx w s b old .nilIface ((w.alloc (.cells #[.string s] 9 (0, 0))).alloc (.cells #[.nilIface] 44 (0, 0))) := by
  have hbw : b < w.heap.size := World.block_lt_of_cell? _ _ hc
  have hB : Below w.heap.size w ((w.alloc (.cells #[.string s] 9 (0, 0))).alloc (.cells #[.nilIface] 44 (0, 0))) := ((Below.refl _ _).alloc (Nat.le_refl _) _).alloc (by simp) _
  exact ⟨(hB.cell hbw).trans hc, (hB.frozen hbw).trans hf, by simp, by simp, by simp, by simp, by omega, hB⟩
theorem Bx.keep {w w1 w2 : World} {s : ByteArray} {b : Nat} {old ev : Value} (hbw : b < w.heap.size) (h : Bx w s b old ev w1) (hb : Below w1.heap.size w1 w2) : Bx w s b old ev w2 := by
  obtain ⟨h0, h1, h2, h3, h4, h5, h6, h7⟩ := h
  have hz := hb.size
  refine ⟨(hb.cell ?_).trans h0, (hb.frozen ?_).trans h1, (hb.cell ?_).trans h2, (hb.cell ?_).trans h3, (hb.frozen ?_).trans h4, by omega, h6, h7.out.trans (hb.mono (by omega))⟩
  · show b < _; omega
  · show b < _; omega
  · show w.heap.size < _; omega
  · exact h5
  · exact h5
theorem Bx.err {w w1 : World} {s : ByteArray} {b : Nat} {old ev : Value} (hbw : b < w.heap.size) (h : Bx w s b old ev w1) (v : Value) : Bx w s b old v (w1.setCell ⟨w.heap.size + 1, 0, none⟩ v) := by
  obtain ⟨h0, h1, h2, h3, h4, h5, h6, h7⟩ := h
  refine ⟨?_, by simpa using h1, ?_, World.cell?_setCell_same _ _ _ h3, by simpa using h4, by simpa using h5, h6, ?_⟩
  · rw [World.cell?_setCell_other _ _ _ _ (box_ne h6.symm)]; exact h0
  · rw [World.cell?_setCell_other _ _ _ _ (box_ne (by omega))]; exact h2
  · refine ⟨h7.out.os, h7.out.tape, h7.out.output, by simpa using h7.out.size, fun i hi => ?_⟩
    refine (Below.heap_setCell _ _ _ _ ?_).trans (h7.out.block i hi)
    show i ≠ w.heap.size + 1
    omega

theorem names {l : List UInt8} {v : Int} (h : baseUp l = some v) : l = [68, 69, 66, 85, 71] ∧ v = -4 ∨ l = [73, 78, 70, 79] ∧ v = 0 ∨ l = [87, 65, 82, 78] ∧ v = 4 ∨ l = [69, 82, 82, 79, 82] ∧ v = 8 := by
  unfold baseUp at h
  repeat' split at h
  all_goals first | cases h | skip
  all_goals simp_all

theorem noName {l : List UInt8} (h : baseUp l = none) : ((⟨l.toArray⟩ : ByteArray).toList == [68, 69, 66, 85, 71]) = false ∧ ((⟨l.toArray⟩ : ByteArray).toList == [73, 78, 70, 79]) = false ∧
    ((⟨l.toArray⟩ : ByteArray).toList == [87, 65, 82, 78]) = false ∧ ((⟨l.toArray⟩ : ByteArray).toList == [69, 82, 82, 79, 82]) = false := by
  have e : (⟨l.toArray⟩ : ByteArray).toList = l := by rw [ByteArray.toList_eq]
  rw [e]
  unfold baseUp at h
  repeat' split at h
  all_goals first | cases h | skip
  refine ⟨?_, ?_, ?_, ?_⟩ <;> rw [beq_eq_false_iff_ne] <;> assumption

theorem but_end {w w1 : World} {b : Nat} {old : Value} (x y z : Value) (hb : b < w.heap.size) (hB : Below w.heap.size w w1) (kb : w1.cell? ⟨b, 0, none⟩ = some old) (ke : w1.cell? ⟨w.heap.size + 1, 0, none⟩ = some .nilIface) :
    (((w1.setCell ⟨b, 0, none⟩ x).setCell ⟨b, 0, none⟩ y).setCell ⟨w.heap.size + 1, 0, none⟩ z).cell? ⟨b, 0, none⟩ = some y ∧ But b w (((w1.setCell ⟨b, 0, none⟩ x).setCell ⟨b, 0, none⟩ y).setCell ⟨w.heap.size + 1, 0, none⟩ z) ∧
    (((w1.setCell ⟨b, 0, none⟩ x).setCell ⟨b, 0, none⟩ y).setCell ⟨w.heap.size + 1, 0, none⟩ z).cell? ⟨w.heap.size + 1, 0, none⟩ = some z := by
  have hne : (⟨b, 0, none⟩ : Addr) ≠ ⟨w.heap.size + 1, 0, none⟩ := by
    intro e
    have := congrArg Addr.block e
    simp only at this
    omega
  refine ⟨?_, ?_, ?_⟩
  · rw [World.cell?_setCell_other _ _ _ _ hne.symm]
    exact World.cell?_setCell_same _ _ _ (World.cell?_setCell_same _ _ _ kb)
  · have h1 : But b w ((w1.setCell ⟨b, 0, none⟩ x).setCell ⟨b, 0, none⟩ y) := ((But.of_below hB).set 0 x).set 0 y
    have hs : w.heap.size ≤ w1.heap.size := hB.size
    refine ⟨h1.os, h1.tape, h1.output, ?_, fun i hi hn => ?_⟩
    · simp; omega
    · refine (Below.heap_setCell _ _ _ _ ?_).trans (h1.block i hi hn)
      show i ≠ w.heap.size + 1
      omega
  · refine World.cell?_setCell_same _ _ _ (u := .nilIface) ?_
    rw [World.cell?_setCell_other _ _ _ _ hne, World.cell?_setCell_other _ _ _ _ hne]
    exact ke

set_option maxRecDepth 100000 in
set_option maxHeartbeats 1000000 in
theorem read_bare (s : ByteArray) (b : Nat) (old : Int) (hs : s.size ≤ 1000000) (ha : ∀ b ∈ s.data.toList, b.toNat < 128) (w : World) (hc : w.cell? ⟨b, 0, none⟩ = some (.int .i64 old)) (hf : w.frozen? ⟨b, 0, none⟩ = false) (hE : Env w)
    (hsg : signIdx s = -1) (v : Int) (hv : baseUp (s.data.toList.map upA) = some v) : Calls Tryd.prog 40 #[.pointer (some ⟨b, 0, none⟩), .string s] w fun e w' => e = .returned .nilIface ∧ w'.cell? ⟨b, 0, none⟩ = some (.int .i64 v) ∧ But b w w' := by
  have hmf : ∀ (fn : Fn) (first cap : Array Value) (w : World), (Instr.makeFunc fn first cap).run Tryd.prog w = .ok (.func fn first cap) w := fun _ _ _ _ => rfl
  have hbw : b < w.heap.size := World.block_lt_of_cell? _ _ hc
  have cS := fun wx => zzSign_any s (by omega) wx
  rw [hsg] at cS
  have cU := fun wx => upper_any s wx hs ha
  have CS := Lib.hid cS
  have hv' := names hv
  clear cS ha hv
  rcases hv' with ⟨hl, rfl⟩ | ⟨hl, rfl⟩ | ⟨hl, rfl⟩ | ⟨hl, rfl⟩
  all_goals
    rw [hl] at cU
    have CU := Lib.hid cU
    clear cU hl
    go_enter_defers Tryd.func40, Tryd.ntmps40
    go_wp2_with (first
      | (go_at_call 55; refine (CS.out _).mono ?_; rintro e w1 ⟨rfl, rfl⟩)
      | (go_at_call 57; refine (CU.out _).mono ?_; rintro e w1 ⟨rfl, hb1⟩; obtain ⟨kb, fb, ks, ke, fe, ze, ne, HB⟩ := (Bx.start s hc hf).keep hbw hb1; clear hb1))
    obtain ⟨r1, r2, r3⟩ := but_end (.int .i64 _) (.int .i64 _) .nilIface hbw HB.out kb ke
    refine leaves_cons (f := 52) (args := #[.pointer (some ⟨w.heap.size + 1, 0, none⟩), .pointer (some ⟨w.heap.size, 0, none⟩)]) (by simp) (by simp [go_sem]) ?_
    refine (late_fine _ _ .returning _ r3).mono ?_
    rintro e u' w'' ⟨rfl, rfl, rfl⟩
    simp only [settle, Leaves]
    refine ⟨.nilIface, ?_, rfl, r1, r2⟩
    simp [results, Tryd.results40, go_sem, r3]

theorem ext_take' (s : ByteArray) (k : Nat) : (s.extract 0 k).data.toList = s.data.toList.take k := ext_take s k

set_option maxRecDepth 100000 in
set_option maxHeartbeats 1000000 in
theorem read_sign (s : ByteArray) (b : Nat) (old : Int) (hs : s.size ≤ 1000000) (ha : ∀ b ∈ s.data.toList, b.toNat < 128) (w : World) (hc : w.cell? ⟨b, 0, none⟩ = some (.int .i64 old)) (hf : w.frozen? ⟨b, 0, none⟩ = false) (hE : Env w)
    (k : Nat) (hk : k ≤ s.size) (hsg : signIdx s = k) (v : Int) (hv : baseUp ((s.data.toList.take k).map upA) = some v) (n : Int) (hn : numOf (s.data.toList.drop k) = some n) :
    Calls Tryd.prog 40 #[.pointer (some ⟨b, 0, none⟩), .string s] w fun e w' => e = .returned .nilIface ∧ w'.cell? ⟨b, 0, none⟩ = some (.int .i64 (wrap64 (v + n))) ∧ But b w w' := by
  have hmf : ∀ (fn : Fn) (first cap : Array Value) (w : World), (Instr.makeFunc fn first cap).run Tryd.prog w = .ok (.func fn first cap) w := fun _ _ _ _ => rfl
  have hbw : b < w.heap.size := World.block_lt_of_cell? _ _ hc
  have cS := fun wx => zzSign_any s (by omega) wx
  rw [hsg] at cS
  have cU := fun wx => upper_any (s.extract 0 k) wx (by rw [size_eq, ext_take, List.length_take, ← size_eq]; omega) (fun b hb => ha b (List.mem_of_mem_take (by rw [ext_take] at hb; exact hb)))
  rw [ext_take] at cU
  have cA := fun wx => atoi_any (s.extract k s.size) (by rw [size_eq, ext_drop, List.length_drop, ← size_eq]; omega) w wx hE
  unfold AtoiPost at cA
  rw [ext_drop, hn] at cA
  simp only at cA
  have CA := Lib.hid cA
  have CS := Lib.hid cS
  have HE := Lib.hid hE
  have hv' := names hv
  have hks : (k : Int) ≤ (s.size : Int) := by omega
  have hk0 : (0 : Int) ≤ (k : Int) := by omega
  clear cS ha hv cA hE hn
  rcases hv' with ⟨hl, rfl⟩ | ⟨hl, rfl⟩ | ⟨hl, rfl⟩ | ⟨hl, rfl⟩
  all_goals
    rw [hl] at cU
    have CU := Lib.hid cU
    clear cU hl
    go_enter_defers Tryd.func40, Tryd.ntmps40
    go_wp2_with (first
      | (go_at_call 55; refine (CS.out _).mono ?_; rintro e w1 ⟨rfl, rfl⟩)
      | (go_at_call 56; refine (CA.out _ (((Below.refl _ _).alloc (Nat.le_refl _) _).alloc (by simp) _)).mono ?_; rintro e w1 ⟨hb1, rfl⟩; have HX := Lib.hid ((Bx.start s hc hf).keep hbw hb1); obtain ⟨kb, fb, ks, ke, fe, ze, ne, HB⟩ := HX.out; clear hb1)
      | (go_at_call 57; refine (CU.out _).mono ?_; rintro e w2 ⟨rfl, hb2⟩; obtain ⟨kb2, fb2, ks2, ke2, fe2, ze2, ne2, HB2⟩ := (HX.out.err hbw .nilIface).keep hbw hb2; clear hb2))
    obtain ⟨r1, r2, r3⟩ := but_end (.int .i64 _) (.int .i64 _) .nilIface hbw HB2.out kb2 ke2
    refine leaves_cons (f := 52) (args := #[.pointer (some ⟨w.heap.size + 1, 0, none⟩), .pointer (some ⟨w.heap.size, 0, none⟩)]) (by simp) (by simp [go_sem]) ?_
    refine (late_fine _ _ .returning _ r3).mono ?_
    rintro e u' w'' ⟨rfl, rfl, rfl⟩
    simp only [settle, Leaves]
    refine ⟨.nilIface, ?_, rfl, by simpa only [Int.zero_add] using r1, r2⟩
    simp [results, Tryd.results40, go_sem, r3]

/-- The end of a call that has an error. -/
theorem bad_end {w F : World} {s : ByteArray} {b : Nat} {old ev : Value} (hs : s.size ≤ 1000000) (hX : Bx w s b old ev F) (hE : Env w) (hF : Fault F ev) :
    CallsD Tryd.prog 52 #[.pointer (some ⟨w.heap.size + 1, 0, none⟩), .pointer (some ⟨w.heap.size, 0, none⟩)] .returning F fun e u' w' => u' = .returning ∧ e = .returned (.tuple #[]) ∧
      ∃ p, w'.cell? ⟨w.heap.size + 1, 0, none⟩ = some (.iface 90 (.pointer p)) ∧ Below w.heap.size w w' := by
  obtain ⟨h0, h1, h2, h3, h4, h5, h6, h7⟩ := hX
  have hE' := hE.on h7.out
  refine (late_bad (w.heap.size + 1) w.heap.size .returning F ev s hs (by omega) h3 h2 h4 hF hE'.print hE'.utf8).mono ?_
  rintro e u' w' ⟨rfl, rfl, p, hp, hb⟩
  have hz := hb.size
  exact ⟨rfl, rfl, p, hp, h7.out.trans ⟨hb.os, hb.tape, hb.output, by have := h7.out.size; omega, fun i hi => hb.block i (by have := h7.out.size; omega) (fun e => by have := Option.some.inj e; omega)⟩⟩

set_option maxRecDepth 100000 in
set_option maxHeartbeats 1000000 in
theorem read_num (s : ByteArray) (b : Nat) (old : Int) (hs : s.size ≤ 1000000) (w : World) (hc : w.cell? ⟨b, 0, none⟩ = some (.int .i64 old)) (hf : w.frozen? ⟨b, 0, none⟩ = false) (hE : Env w)
    (k : Nat) (hk : k ≤ s.size) (hsg : signIdx s = k) (hn : numOf (s.data.toList.drop k) = none) :
    Calls Tryd.prog 40 #[.pointer (some ⟨b, 0, none⟩), .string s] w fun e w' => (∃ t x, e = .returned (.iface t x)) ∧ Below w.heap.size w w' := by
  have hmf : ∀ (fn : Fn) (first cap : Array Value) (w : World), (Instr.makeFunc fn first cap).run Tryd.prog w = .ok (.func fn first cap) w := fun _ _ _ _ => rfl
  have hbw : b < w.heap.size := World.block_lt_of_cell? _ _ hc
  have cS := fun wx => zzSign_any s (by omega) wx
  rw [hsg] at cS
  have cA := fun wx => atoi_any (s.extract k s.size) (by rw [size_eq, ext_drop, List.length_drop, ← size_eq]; omega) w wx hE
  unfold AtoiPost at cA
  rw [ext_drop, hn] at cA
  simp only at cA
  have CA := Lib.hid cA
  have CS := Lib.hid cS
  have HE := Lib.hid hE
  obtain ⟨Q, hQ⟩ : ∃ Q : Ending → World → Prop, Q = fun e w' => (∃ t x, e = .returned (.iface t x)) ∧ Below w.heap.size w w' := ⟨_, rfl⟩
  rw [← hQ]
  have HQ := Lib.hid hQ
  clear hQ
  have hks : (k : Int) ≤ (s.size : Int) := by omega
  have hk0 : (0 : Int) ≤ (k : Int) := by omega
  have hBA : Below w.heap.size w ((w.alloc (.cells #[.string s] 9 (0, 0))).alloc (.cells #[.nilIface] 44 (0, 0))) := ((Below.refl _ _).alloc (Nat.le_refl _) _).alloc (by simp) _
  have HA := Lib.hid hBA
  clear cS cA hE hn hBA
  go_enter_defers Tryd.func40, Tryd.ntmps40
  go_wp2_with (first
      | (go_at_call 55; refine (CS.out _).mono ?_; rintro e w1 ⟨rfl, rfl⟩)
      | (go_at_call 56; refine (CA.out _ HA.out).mono ?_; rintro e w1 ⟨hb1, x, N, a, t, rfl, hN, ha, ht, hblk⟩; have Hr := Lib.hid (And.intro hb1 (And.intro hN (And.intro ha (And.intro ht hblk)))); have HX := Lib.hid ((Bx.start s hc hf).keep hbw hb1); obtain ⟨kb, fb, ks, ke, fe, ze, ne, HB⟩ := HX.out; clear hb1 hN ha ht hblk))
  obtain ⟨hb1, hN, ha, ht, hblk⟩ := Hr.out
  have hz : N ≠ w.heap.size + 1 := by simp at hN; omega
  have hXF := (HX.out.err hbw (.iface 113 (.pointer (some ⟨N, 0, none⟩)))).err hbw (.iface 113 (.pointer (some ⟨N, 0, none⟩)))
  have hbF := hXF.2.2.2.2.2.2.2.out
  have hEF := HE.out.on hbF
  have hF := fault_num (by rw [size_eq, ext_drop, List.length_drop, ← size_eq]; omega) ht ((Below.heap_setCell _ _ _ _ hz).trans ((Below.heap_setCell _ _ _ _ hz).trans hblk)) ((hbF.cell (World.block_lt_of_cell? _ _ ha)).trans ha) hEF.print hEF.utf8
  refine leaves_cons (f := 52) (args := #[.pointer (some ⟨w.heap.size + 1, 0, none⟩), .pointer (some ⟨w.heap.size, 0, none⟩)]) (by simp) (by simp [go_sem]) ?_
  refine (bad_end hs hXF HE.out hF).mono ?_
  rintro e u' w'' ⟨rfl, rfl, p, hp, hb⟩
  simp only [settle, Leaves]
  refine ⟨.iface 90 (.pointer p), ?_, ?_⟩
  · simp [results, Tryd.results40, go_sem, hp]
  · rw [HQ.out]
    exact ⟨⟨_, _, rfl⟩, hb⟩

set_option maxRecDepth 100000 in
set_option maxHeartbeats 1000000 in
theorem read_name (s : ByteArray) (b : Nat) (old : Int) (hs : s.size ≤ 1000000) (ha : ∀ b ∈ s.data.toList, b.toNat < 128) (w : World) (hc : w.cell? ⟨b, 0, none⟩ = some (.int .i64 old)) (hf : w.frozen? ⟨b, 0, none⟩ = false) (hE : Env w)
    (hsg : signIdx s = -1) (hv : baseUp (s.data.toList.map upA) = none) :
    Calls Tryd.prog 40 #[.pointer (some ⟨b, 0, none⟩), .string s] w fun e w' => (∃ t x, e = .returned (.iface t x)) ∧ Below w.heap.size w w' := by
  have hmf : ∀ (fn : Fn) (first cap : Array Value) (w : World), (Instr.makeFunc fn first cap).run Tryd.prog w = .ok (.func fn first cap) w := fun _ _ _ _ => rfl
  have hbw : b < w.heap.size := World.block_lt_of_cell? _ _ hc
  have cS := fun wx => zzSign_any s (by omega) wx
  rw [hsg] at cS
  have cU := fun wx => upper_any s wx hs ha
  obtain ⟨q1, q2, q3, q4⟩ := noName hv
  generalize (⟨(s.data.toList.map upA).toArray⟩ : ByteArray) = U at cU q1 q2 q3 q4
  have CS := Lib.hid cS
  have CU := Lib.hid cU
  have HE := Lib.hid hE
  obtain ⟨Q, hQ⟩ : ∃ Q : Ending → World → Prop, Q = fun e w' => (∃ t x, e = .returned (.iface t x)) ∧ Below w.heap.size w w' := ⟨_, rfl⟩
  rw [← hQ]
  have HQ := Lib.hid hQ
  clear hQ
  clear cS cU ha hv hE
  go_enter_defers Tryd.func40, Tryd.ntmps40
  go_wp2_with (first
      | (go_at_call 55; refine (CS.out _).mono ?_; rintro e w1 ⟨rfl, rfl⟩)
      | (go_at_call 57; refine (CU.out _).mono ?_; rintro e w1 ⟨rfl, hb1⟩; have HX := Lib.hid ((Bx.start s hc hf).keep hbw hb1); obtain ⟨kb, fb, ks, ke, fe, ze, ne, HB⟩ := HX.out; clear hb1)
      | (go_at_call 53; refine (new_any _ _).mono ?_; rintro e w2 ⟨rfl, rfl⟩; have zz : w.heap.size + 1 ≠ w1.heap.size := (by omega)))
  have hXF := (HX.out.err hbw (.iface 90 (.pointer (some ⟨w1.heap.size, 0, none⟩)))).keep hbw ((Below.refl _ _).alloc (Nat.le_refl _) (.cells #[.string ⟨#[117, 110, 107, 110, 111, 119, 110, 32, 110, 97, 109, 101]⟩] 92 (0, 0)))
  have hF := fault_string (W := (w1.setCell ⟨w.heap.size + 1, 0, none⟩ (.iface 90 (.pointer (some ⟨w1.heap.size, 0, none⟩)))).alloc (.cells #[.string ⟨#[117, 110, 107, 110, 111, 119, 110, 32, 110, 97, 109, 101]⟩] 92 (0, 0)))
    (a := ⟨w1.heap.size, 0, none⟩) (t := ⟨#[117, 110, 107, 110, 111, 119, 110, 32, 110, 97, 109, 101]⟩) (by decide) (by
      exact (World.cell?_alloc_at _ _ _ 0 (by simp)).trans rfl)
  refine leaves_cons (f := 52) (args := #[.pointer (some ⟨w.heap.size + 1, 0, none⟩), .pointer (some ⟨w.heap.size, 0, none⟩)]) (by simp) (by simp [go_sem]) ?_
  refine (bad_end hs hXF HE.out hF).mono ?_
  rintro e u' w'' ⟨rfl, rfl, p, hp, hb⟩
  simp only [settle, Leaves]
  refine ⟨.iface 90 (.pointer p), ?_, ?_⟩
  · simp [results, Tryd.results40, go_sem, hp]
  · rw [HQ.out]
    exact ⟨⟨_, _, rfl⟩, hb⟩

end Go.Proofs.YtconeignnananaaDoor.Lv
