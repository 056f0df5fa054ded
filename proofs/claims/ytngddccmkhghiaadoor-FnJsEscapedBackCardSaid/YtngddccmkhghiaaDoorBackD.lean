/- The reader of JSON reads a line that is one string: the walks; what a string is, coerced to UTF-8: the walk. -/
import Derived.Test.YtngddccmkhghiaaDoorBackC
import Derived.BigRegion
import Derived.StillTailTactics
namespace Go.Proofs.YtngddccmkhghiaaDoor.Esc
set_option linter.unusedVariables false
set_option linter.unusedSimpArgs false
open Go Go.Lib Go.RowKit

theorem Rdr.at_ {W w : World} {g : Nat} {T : ByteArray} {k : Nat} (h : Rdr W w g T k) : Rdr w w g T k := ⟨h.1, h.2.1, h.2.2.1, h.2.2.2.1, h.2.2.2.2.1, .refl _ _⟩
theorem Rdr.base {W0 W w : World} {g : Nat} {T : ByteArray} {k : Nat} (h : Rdr W w g T k) (hb : But g W0 W) : Rdr W0 w g T k := ⟨h.1, h.2.1, h.2.2.1, h.2.2.2.1, h.2.2.2.2.1, hb.trans h.2.2.2.2.2⟩

theorem Rdr.other {W w : World} {g : Nat} {T : ByteArray} {k : Nat} (h : Rdr W w g T k) {b o : Nat} (hb : b ≠ g) (hW : W.heap.size ≤ b) (v : Value) : Rdr W (w.setCell ⟨b, o, none⟩ v) g T k := by
  obtain ⟨h0, h1, h2, hf, hg, hB⟩ := h
  refine ⟨(World.cell?_setCell_other _ _ _ _ (by simp [hb])).trans h0, (World.cell?_setCell_other _ _ _ _ (by simp [hb])).trans h1, (World.cell?_setCell_other _ _ _ _ (by simp [hb])).trans h2, fun o => by simpa using hf o, by simpa using hg,
    ⟨hB.os, hB.tape, hB.output, by have := hB.size; simpa using this, fun i hi hn => (Below.heap_setCell _ _ _ _ (by simp; omega)).trans (hB.block i hi hn)⟩⟩

/-- A new block stands. -/
theorem but_box {g n : Nat} {w w1 : World} {o : Obj} (h : But g (w.alloc o) w1) (hn : n = w.heap.size) (hg : g ≠ n) :
    (∀ j, w1.cell? ⟨n, j, none⟩ = (w.alloc o).cell? ⟨n, j, none⟩) ∧ (∀ j, w1.frozen? ⟨n, j, none⟩ = (w.alloc o).frozen? ⟨n, j, none⟩) ∧ n < w1.heap.size := by
  subst hn
  exact ⟨fun j => h.cell (by simp) (fun e => hg e.symm), fun j => h.frozen (by simp) (fun e => hg e.symm), by have := h.size; simp at this; omega⟩
theorem but_box2 {g n : Nat} {w w1 w2 : World} {o : Obj} (h : But g (w.alloc o) w1) (h2 : But g w1 w2) (hn : n = w.heap.size) (hg : g ≠ n) :
    (∀ j, w2.cell? ⟨n, j, none⟩ = (w.alloc o).cell? ⟨n, j, none⟩) ∧ (∀ j, w2.frozen? ⟨n, j, none⟩ = (w.alloc o).frozen? ⟨n, j, none⟩) ∧ n < w2.heap.size := but_box (h.trans h2) hn hg

def ValuePost (W : World) (g : Nat) (T : ByteArray) (k : Nat) (l : List UInt8) (e : Ending) (w' : World) : Prop :=
  (∃ s : ByteArray, e = .returned (.agg #[.int .i64 4, .string s, .string ByteArray.empty, .slice none 0 0]) ∧ s.data.toList = co l) ∧ Rdr W w' g T (k + 1 + (esc l).length + 1)

set_option maxRecDepth 100000 in
set_option maxHeartbeats 1000000 in
theorem value_rd (W w : World) (g : Nat) (T : ByteArray) (k : Nat) (l t : List UInt8) (hT : Lib.Utf8Tabs 0 1 W) (hg : 1 < g) (hD : T.data.toList.drop k = 34 :: (esc l ++ 34 :: t)) (hR : Rdr W w g T k) (hs : T.size ≤ 1000000000) :
    Calls Tryd.prog 17 #[.pointer (some ⟨g, 0, none⟩), .int .i64 0] w (ValuePost W g T k l) := by
  have hk : k < T.size := by
    rcases Nat.lt_or_ge k T.size with h | h
    · exact h
    · rw [List.drop_of_length_le (by rw [← size_eq]; omega)] at hD; cases hD
  have h34 : (T[k]'hk).toNat = 34 := by
    have h1 : (T.data.toList.drop k)[0]? = some 34 := by rw [hD]; rfl
    rw [List.getElem?_drop, List.getElem?_eq_getElem (by rw [← size_eq]; omega)] at h1
    have h2 : T.data.toList[k]'(by rw [← size_eq]; omega) = 34 := Option.some.inj h1
    exact congrArg UInt8.toNat h2
  have HD := Lib.hid hD
  have HR := Lib.hid hR
  have HT := Lib.hid hT
  have H34 := Lib.hid h34
  obtain ⟨c0, c1, c2, cf, cg⟩ := hR.flat
  have hcg : g ≠ w.heap.size := by omega
  obtain ⟨Q, hQ⟩ : ∃ Q, Q = ValuePost W g T k l := ⟨_, rfl⟩
  rw [← hQ]
  have HQ := Lib.hid hQ
  clear hD hR hT hQ h34
  go_enter Tryd.func17, Tryd.ntmps17
  go_wp2_with (first
    | (go_at_call 21; refine (next_any _ _ g T k hk (HR.out.at_.keep ((Below.refl _ _).alloc (Nat.le_refl _) _)).at_ hs).mono ?_; rintro e w1 ⟨rfl, hr1⟩; rw [H34.out]; have HR1 := Lib.hid hr1; obtain ⟨d0, d1, d2, df, dg⟩ := hr1.flat; have hB1 := Lib.hid hr1.2.2.2.2.2; obtain ⟨hc1, hf1, hz1⟩ := but_box hB1.out rfl hcg; clear hr1)
    | (go_at_call 23; refine (text_rd _ _ g T k l t (tabs_but HT.out hg ((HR.out.2.2.2.2.2.trans (.of_below ((Below.refl _ _).alloc (Nat.le_refl _) _))).trans hB1.out)) hg HD.out HR1.out.at_ hs).mono ?_; rintro e w2 ⟨⟨s2, rfl, hs2⟩, hr2⟩; have Hs2 := Lib.hid hs2; have HR2 := Lib.hid hr2; have hB2 := Lib.hid hr2.2.2.2.2.2; obtain ⟨hc2, hf2, hz2⟩ := but_box2 hB1.out hB2.out rfl hcg; clear hs2 hr2))
  have hq := HQ.out
  subst hq
  refine bodyPost_ret (v := .agg #[.int .i64 4, .string s2, .string ByteArray.empty, .slice none 0 0]) ?r rfl ⟨⟨s2, rfl, Hs2.out⟩, ?b⟩
  case r => simp [results, Tryd.results17, go_sem, hc2, hz2]; try rfl
  case b =>
    have h1 := HR2.out.base (((HR.out.2.2.2.2.2.trans (.of_below ((Below.refl _ _).alloc (Nat.le_refl _) _))).trans hB1.out))
    have hsz := HR.out.2.2.2.2.2.size
    exact (((h1.other (Ne.symm hcg) hsz _).other (Ne.symm hcg) hsz _).other (Ne.symm hcg) hsz _).other (Ne.symm hcg) hsz _

def ReadPost (w : World) (l : List UInt8) (e : Ending) (w' : World) : Prop :=
  (∃ s : ByteArray, e = .returned (.tuple #[.agg #[.int .i64 4, .string s, .string ByteArray.empty, .slice none 0 0], .bool true]) ∧ s.data.toList = co l) ∧ Below w.heap.size w w'

set_option maxRecDepth 100000 in
set_option maxHeartbeats 1000000 in
/-- spec.JsRead of a line that is one string. -/
theorem read_line (T : ByteArray) (l : List UInt8) (w : World) (hT : Lib.Utf8Tabs 0 1 w) (hD : T.data.toList = 34 :: (esc l ++ [34, 10])) (hs : T.size ≤ 1000000000) :
    Calls Tryd.prog 10 #[.string T] w (ReadPost w l) := by
  have h1 : 1 < w.heap.size := World.block_lt_of_cell? w _ (hT.2 0 (by decide)).1
  have HT := Lib.hid hT
  have HD := Lib.hid hD
  have hsz : T.size = (esc l).length + 3 := by rw [size_eq, hD]; simp
  have hsz' : (T.size : Int) - 1 = (esc l).length + 2 := by omega
  obtain ⟨Q, hQ⟩ : ∃ Q, Q = ReadPost w l := ⟨_, rfl⟩
  rw [← hQ]
  have HQ := Lib.hid hQ
  clear hT hD hQ hsz
  go_enter Tryd.func10, Tryd.ntmps10
  go_wp2_with (first
    | (go_at_call 17; refine (value_rd _ _ (w.heap.size + 1) T 0 l [10] (tabs_below (tabs_below HT.out ((Below.refl _ _).alloc (Nat.le_refl _) _)) ((Below.refl _ _).alloc (Nat.le_refl _) _)) (by omega) HD.out ⟨by simp, by simp, by simp, fun o => by simp, by simp, .refl _ _⟩ hs).mono ?_; rintro e w2 ⟨⟨s2, rfl, hs2⟩, hr2⟩; have Hs2 := Lib.hid hs2; have HR2 := Lib.hid hr2; obtain ⟨d0, d1, d2, df, dg⟩ := hr2.flat; have hB2 := Lib.hid hr2.2.2.2.2.2; clear hs2 hr2))
  obtain ⟨M, hM⟩ : ∃ M, M = 0 + 1 + (esc l).length + 1 := ⟨_, rfl⟩
  rw [← hM] at d1 HR2
  have hMs : M + 1 = T.size := by omega
  have hMlt : (M : Int) < (T.size : Int) := by omega
  have e1 : ((M : Int) == (T.size : Int) - 1) = true := by rw [beq_iff_eq]; omega
  have hMl2 : M < T.size := by omega
  have e2 : (T[M]'hMl2).toNat = 10 := by
    have hd : T.data.toList[M]? = some 10 := by
      rw [HD.out, hM, show 0 + 1 + (esc l).length + 1 = (esc l).length + 2 by omega, List.getElem?_cons_succ, List.getElem?_append_right (by omega)]
      simp
    rw [List.getElem?_eq_getElem (by rw [← size_eq]; omega)] at hd
    exact congrArg UInt8.toNat (Option.some.inj hd)
  have hc2 : ∀ j, w2.cell? ⟨w.heap.size, j, none⟩ = _ := fun j => hB2.out.cell (b := w.heap.size) (o := j) (by simp; omega) (by omega)
  have hf2 : ∀ j, w2.frozen? ⟨w.heap.size, j, none⟩ = _ := fun j => hB2.out.frozen (b := w.heap.size) (o := j) (by simp; omega) (by omega)
  have hz0 : w.heap.size < w2.heap.size := by omega
  have HM := Lib.hid (And.intro hM hMs)
  clear hM hMs hsz'
  go_region
  go_wp2
  have hq := HQ.out
  subst hq
  refine bodyPost_ret (v := .tuple #[.agg #[.int .i64 4, .string s2, .string ByteArray.empty, .slice none 0 0], .bool true]) ?r rfl ⟨⟨s2, rfl, Hs2.out⟩, ?b⟩
  case r => simp [results, Tryd.results10, go_sem, hc2, hz0]; try rfl
  case b =>
    have hb : Below w.heap.size w w2 := by
      refine ⟨hB2.out.os, hB2.out.tape, hB2.out.output, by have := hB2.out.size; simp at this; omega, fun i hi => ?_⟩
      rw [hB2.out.block i (by simp; omega) (by simp; omega), Below.heap_alloc _ _ _ (by simp; omega), Below.heap_alloc _ _ _ hi]
    exact (((((hb.setCell (by simp) _).setCell (by simp) _).setCell (by simp) _).setCell (by simp) _).alloc (by simp; omega) _).drew

def CoPost (w : World) (l : List UInt8) (e : Ending) (w' : World) : Prop :=
  (∃ s : ByteArray, e = .returned (.string s) ∧ s.data.toList = co l) ∧ Below w.heap.size w w'

theorem iter_below (w : World) (s : ByteArray) (pos : Nat) : Below w.heap.size w (w.iter s pos) := (Below.refl _ _).alloc (Nat.le_refl _) _

theorem co_len (n : Nat) : ∀ l : List UInt8, l.length ≤ n → (co l).length ≤ 4 * l.length := by
  induction n with
  | zero =>
    intro l h
    have : l = [] := List.eq_nil_of_length_eq_zero (by omega)
    subst this
    simp [co_nil]
  | succ n ih =>
    intro l h
    by_cases hne : l = []
    · subst hne; simp [co_nil]
    · have hw := decodeL_width l
      have hl : 0 < l.length := List.length_pos_iff.2 hne
      rw [co_step l hne, List.length_append]
      have h1 := ih (l.drop (decodeL l).2) (by rw [List.length_drop]; omega)
      have h2 : (encodeRune ((decodeL l).1 : Int)).length ≤ 4 := by unfold encodeRune; rw [List.length_map]; exact (encodeRuneZ_length _).2
      have hle := decodeL_le l hne
      rw [List.length_drop] at h1
      omega

set_option maxRecDepth 100000 in
set_option maxHeartbeats 1000000 in
/-- spec.JsCoerced. -/
theorem co_any (s : ByteArray) (w : World) (hs : s.size ≤ 1000000000) : Calls Tryd.prog 11 #[.string s] w (CoPost w s.data.toList) := by
  obtain ⟨Q, hQ⟩ : ∃ Q, Q = CoPost w s.data.toList := ⟨_, rfl⟩
  rw [← hQ]
  have HQ := Lib.hid hQ
  clear hQ
  go_enter Tryd.func11, Tryd.ntmps11
  go_wp2
  go_loopg [3] s.size (fun n o wr => ∃ (k : Nat) (x : ByteArray), o = .string x ∧ wr = w.iter s k ∧ k ≤ s.size ∧ s.size - k ≤ n ∧ x.data.toList ++ co (s.data.toList.drop k) = co s.data.toList)
  case atStart => exact ⟨0, ByteArray.empty, rfl, rfl, Nat.zero_le _, by omega, rfl⟩
  case round =>
    obtain ⟨k, x, rfl, rfl, hk, hn, hx⟩ := hrel
    have hxl : x.size ≤ 4000000000 := by
      have h1 := co_len _ s.data.toList (Nat.le_refl _)
      have h2 := congrArg List.length hx
      rw [List.length_append, ← size_eq] at h2
      rw [← size_eq] at h1
      omega
    have Hx := Lib.hid hx
    have Hn := Lib.hid hn
    clear hx hn
    by_cases hlt : k < s.size
    · obtain ⟨c, n, hcn⟩ : ∃ c n, Utf8.decode s k = (c, n) := ⟨_, _, rfl⟩
      have hnx : ∀ ty, (Instr.next (.pointer (some ⟨w.heap.size, 0, none⟩)) true ty).run Tryd.prog (w.iter s k) = .ok (.tuple #[.bool true, .int .i64 k, .int .i32 c]) (w.iter s (k + n)) := fun ty => by
        have h := run_next_any (P := Tryd.prog) w s k ty hlt
        rw [hcn] at h
        exact h
      have hd := decode_le s k hlt
      have hst := co_step (s.data.toList.drop k) (by intro h; have := congrArg List.length h; rw [List.length_drop, ← size_eq] at this; simp at this; omega)
      rw [decodeL_drop, List.drop_drop, hcn] at hst
      rw [hcn] at hd
      have Hst := Lib.hid hst
      have Hd := Lib.hid hd
      have hen := enc_list c
      have hel := enc_size hen
      have Hen := Lib.hid hen
      clear hst hd hcn hen
      go_wp2
      have hd : 1 ≤ n ∧ k + n ≤ s.size ∧ n ≤ 4 := Hd.out
      go_roundg (s.size - (k + n))
      case measure => have := Hn.out; omega
      case rel =>
        refine ⟨k + n, x ++ Utf8.encode c, rfl, rfl, by omega, Nat.le_refl _, ?_⟩
        have h1 := Hx.out
        rw [Hst.out] at h1
        rw [ByteArray.toList_data_append, Hen.out, List.append_assoc]
        exact h1
    · have hnx : ∀ ty, (Instr.next (.pointer (some ⟨w.heap.size, 0, none⟩)) true ty).run Tryd.prog (w.iter s k) = _ := fun ty => run_next_end w s k ty hlt
      go_wp2
      have hq := HQ.out
      subst hq
      refine ⟨⟨x, rfl, ?_⟩, iter_below _ _ _⟩
      have h1 := Hx.out
      rwa [List.drop_of_length_le (by rw [← size_eq]; omega), co_nil, List.append_nil] at h1


theorem read_str (T : ByteArray) (l : List UInt8) (w : World) (hT : Lib.Utf8Tabs 0 1 w) (hD : T.data.toList = 34 :: (esc l ++ [34, 10])) (hs : T.size ≤ 1000000000) :
    Calls Tryd.prog 10 #[.string T] w fun e w' => e = .returned (.tuple #[.agg #[.int .i64 4, .string ⟨(co l).toArray⟩, .string ByteArray.empty, .slice none 0 0], .bool true]) ∧ Below w.heap.size w w' := by
  refine (read_line T l w hT hD hs).mono ?_
  rintro e w' ⟨⟨s, rfl, h⟩, hb⟩
  exact ⟨by rw [← h], hb⟩
theorem co_str (s : ByteArray) (w : World) (hs : s.size ≤ 1000000000) : Calls Tryd.prog 11 #[.string s] w fun e w' => e = .returned (.string ⟨(co s.data.toList).toArray⟩) ∧ Below w.heap.size w w' := by
  refine (co_any s w hs).mono ?_
  rintro e w' ⟨⟨x, rfl, h⟩, hb⟩
  exact ⟨by rw [← h], hb⟩

end Go.Proofs.YtngddccmkhghiaaDoor.Esc
