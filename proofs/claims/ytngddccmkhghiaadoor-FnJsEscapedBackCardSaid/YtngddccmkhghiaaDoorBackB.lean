/- The reader of JSON: the next byte, four hexadecimal digits, what stands behind a backslash: the walks. -/
import Derived.Test.YtngddccmkhghiaaDoorEscA
import Derived.Test.YtngddccmkhghiaaDoorBackA
import Derived.BigQuiet
import Derived.Deep.QuietTactic
import Derived.Deep.LoopGhost
import Derived.Stop.FmtQuoteTie
import Derived.Laws.RangeString
import Derived.Laws.Runes
namespace Go.Proofs.YtngddccmkhghiaaDoor.Esc
set_option linter.unusedVariables false
set_option linter.unusedSimpArgs false
open Go Go.Lib Go.RowKit

theorem enc_list (r : Nat) : (Utf8.encode (r : Int)).data.toList = encodeRune (r : Int) := by
  have h := Go.Extern.FmtText.encode_eq r
  unfold encodeRune
  rw [← h]
  unfold Go.Extern.FmtText.nums
  rw [List.map_map]
  conv => lhs; rw [← List.map_id (Utf8.encode (r : Int)).data.toList]
  refine List.map_congr_left fun x _ => ?_
  simp

theorem below_drewN {B : Nat} {a w : World} (h : Below B a w) (n : Nat) : Below B a (w.drewN n) := ⟨h.os, h.tape, h.output, h.size, h.block⟩

/-- But for block g all that was there is as it was in W. -/
abbrev But (g : Nat) (W w : World) : Prop := W.grownBy w (some g)
theorem But.refl (g : Nat) (W : World) : But g W W := ⟨rfl, rfl, rfl, Nat.le_refl _, fun _ _ _ => rfl⟩
theorem But.trans {g : Nat} {a b c : World} (h : But g a b) (k : But g b c) : But g a c :=
  ⟨k.os.trans h.os, k.tape.trans h.tape, k.output.trans h.output, Nat.le_trans h.size k.size, fun i hi hn => (k.block i (by have := h.size; omega) hn).trans (h.block i hi hn)⟩
theorem But.of_below {g : Nat} {W w : World} (h : Below W.heap.size W w) : But g W w := ⟨h.os, h.tape, h.output, h.size, fun i hi _ => h.block i hi⟩
theorem But.set {g : Nat} {W w : World} (h : But g W w) (o : Nat) (v : Value) : But g W (w.setCell ⟨g, o, none⟩ v) :=
  h.trans ⟨rfl, rfl, rfl, by simp, fun i hi hn => Below.heap_setCell _ _ _ _ (fun e => hn (by rw [e]))⟩
theorem But.drewN {g : Nat} {W w : World} (h : But g W w) (n : Nat) : But g W (w.drewN n) := ⟨h.os, h.tape, h.output, h.size, h.block⟩
theorem But.drew {g : Nat} {W w : World} (h : But g W w) : But g W w.drew := ⟨h.os, h.tape, h.output, h.size, h.block⟩
theorem But.cell {g : Nat} {W w : World} (h : But g W w) {b o : Nat} (hb : b < W.heap.size) (hn : b ≠ g) : w.cell? ⟨b, o, none⟩ = W.cell? ⟨b, o, none⟩ :=
  World.cell?_of_block (a := ⟨b, o, none⟩) (h.block b hb (fun e => hn (Option.some.inj e)))
theorem But.frozen {g : Nat} {W w : World} (h : But g W w) {b o : Nat} (hb : b < W.heap.size) (hn : b ≠ g) : w.frozen? ⟨b, o, none⟩ = W.frozen? ⟨b, o, none⟩ :=
  World.frozen?_of_block (a := ⟨b, o, none⟩) (h.block b hb (fun e => hn (Option.some.inj e)))

/-- Block g is a reader of the text T, at place k; all else that was there is as it was in W. -/
def Rdr (W w : World) (g : Nat) (T : ByteArray) (k : Nat) : Prop :=
  w.cell? ⟨g, 0, none⟩ = some (.string T) ∧ w.cell? ⟨g, 1, none⟩ = some (.int .i64 k) ∧ w.cell? ⟨g, 2, none⟩ = some (.bool true) ∧
  (∀ o, w.frozen? ⟨g, o, none⟩ = false) ∧ g < w.heap.size ∧ But g W w

theorem Rdr.step {W w : World} {g : Nat} {T : ByteArray} {k : Nat} (h : Rdr W w g T k) (k' : Nat) (i : Int) (hi : i = k') : Rdr W (w.setCell ⟨g, 1, none⟩ (.int .i64 i)) g T k' := by
  subst hi
  obtain ⟨h0, h1, h2, hf, hg, hb⟩ := h
  refine ⟨(World.cell?_setCell_other _ _ _ _ (by simp)).trans h0, World.cell?_setCell_same _ _ _ h1, (World.cell?_setCell_other _ _ _ _ (by simp)).trans h2, fun o => by simpa using hf o, by simpa using hg, hb.set _ _⟩
theorem Rdr.drewN {W w : World} {g : Nat} {T : ByteArray} {k : Nat} (h : Rdr W w g T k) (n : Nat) : Rdr W (w.drewN n) g T k := by
  obtain ⟨h0, h1, h2, hf, hg, hb⟩ := h
  exact ⟨by simpa using h0, by simpa using h1, by simpa using h2, fun o => by simpa using hf o, by simpa using hg, hb.drewN n⟩
theorem Rdr.drew {W w : World} {g : Nat} {T : ByteArray} {k : Nat} (h : Rdr W w g T k) : Rdr W w.drew g T k := by
  obtain ⟨h0, h1, h2, hf, hg, hb⟩ := h
  exact ⟨h0, h1, h2, hf, hg, hb.drew⟩
theorem Rdr.keep {W w w1 : World} {g : Nat} {T : ByteArray} {k : Nat} (h : Rdr W w g T k) (hb : Below w.heap.size w w1) : Rdr W w1 g T k := by
  obtain ⟨h0, h1, h2, hf, hg, hB⟩ := h
  exact ⟨(hb.cell (p := ⟨g, 0, none⟩) hg).trans h0, (hb.cell (p := ⟨g, 1, none⟩) hg).trans h1, (hb.cell (p := ⟨g, 2, none⟩) hg).trans h2, fun o => (hb.frozen (p := ⟨g, o, none⟩) hg).trans (hf o), by have := hb.size; omega, hB.trans (.of_below hb)⟩

def NextPost (W : World) (g : Nat) (T : ByteArray) (k : Nat) (b : Int) (e : Ending) (w' : World) : Prop := e = .returned (.int .u8 b) ∧ Rdr W w' g T k

set_option maxHeartbeats 1000000 in
theorem next_any (W w : World) (g : Nat) (T : ByteArray) (k : Nat) (hk : k < T.size) (hR : Rdr W w g T k) (hs : T.size ≤ 1000000000) :
    Calls Tryd.prog 21 #[.pointer (some ⟨g, 0, none⟩)] w (NextPost W g T k (T[k]'hk).toNat) := by
  have HR := Lib.hid hR
  obtain ⟨h0, h1, h2, hf, hg, hb⟩ := hR
  have hlt : (k : Int) < (T.size : Int) := by omega
  unfold NextPost
  go_enter Tryd.func21, Tryd.ntmps21
  go_wp2
  go_quiet (fail)
  go_wp2
  go_quiet (fail)
  go_wp2
  go_ret
  exact ⟨rfl, (HR.out.drewN _).drewN _⟩

theorem num_eq {k : IntKind} {a b : Int} (h : a = b) : Value.int k a = .int k b := by rw [h]

/-- The number of the first digits. -/
def hexN (d : Nat → Nat) : Nat → Nat
  | 0 => 0
  | j + 1 => hexN d j * 16 + d j

theorem hexN_succ (d : Nat → Nat) (j : Nat) : hexN d (j + 1) = hexN d j * 16 + d j := rfl

def HexPost (W : World) (g : Nat) (T : ByteArray) (k n : Nat) (e : Ending) (w' : World) : Prop := e = .returned (.int .i32 n) ∧ Rdr W w' g T (k + 4)

theorem hexN_lt (d : Nat → Nat) (h : ∀ j, d j < 16) : ∀ j, hexN d j < 16 ^ j
  | 0 => by simp [hexN]
  | j + 1 => by
    have h1 := hexN_lt d h j
    have h2 := h j
    unfold hexN
    rw [Nat.pow_succ]
    omega

set_option maxRecDepth 100000 in
set_option maxHeartbeats 1000000 in
theorem hex_rd (W w : World) (g : Nat) (T : ByteArray) (k : Nat) (d : Nat → Nat) (hd : ∀ j, d j < 16) (hk : k + 4 ≤ T.size) (hdig : ∀ j, (hj : j < 4) → (T[k + j]'(by omega)) = hexD (d j)) (hR : Rdr W w g T k) (hs : T.size ≤ 1000000000) :
    Calls Tryd.prog 30 #[.pointer (some ⟨g, 0, none⟩)] w (HexPost W g T k (hexN d 4)) := by
  have Hdig := Lib.hid hdig
  clear hdig
  unfold HexPost
  go_enter Tryd.func30, Tryd.ntmps30
  go_wp2
  go_loopw [3, 4] (fun n i wr => ∃ j : Nat, j ≤ 4 ∧ i = .int .i64 j ∧ n = .int .i32 (hexN d j) ∧ Rdr W wr g T (k + j)) (fun _ i _ => 4 - (RowKit.intOf i).toNat)
  case atStart => exact ⟨0, by omega, rfl, rfl, hR⟩
  case round =>
    obtain ⟨j, hj, rfl, rfl, hr⟩ := hrel
    by_cases hlt : j < 4
    · have hlt' : (j : Int) < 4 := by omega
      have hb := hexD_lt (d j) (hd j)
      have e := Hdig.out j hlt
      have hN := hexN_lt d hd j
      have hN' : hexN d j < 4096 := Nat.lt_of_lt_of_le hN (by have : j = 0 ∨ j = 1 ∨ j = 2 ∨ j = 3 := by omega
                                                              rcases this with rfl | rfl | rfl | rfl <;> decide)
      have hdj := hd j
      have hnx := next_any W wr g T (k + j) (by omega) hr hs
      rw [e] at hnx
      obtain ⟨b, hbb⟩ : ∃ b, b = hexD (d j) := ⟨_, rfl⟩
      rw [← hbb] at hnx hb
      have Hnx := Lib.hid hnx
      clear hbb e hnx hN hr hR
      rcases hb with ⟨b1, b2, b3⟩ | ⟨b1, b2, b3⟩
      · have b1' : (48 : Int) ≤ (b.toNat : Int) := by omega
        have b2' : (b.toNat : Int) ≤ 57 := by omega
        have B3 := Lib.hid b3
        clear b1 b2 b3
        go_wp2_with (go_at_call 21; refine Hnx.out.mono ?_; rintro e w1 ⟨rfl, hr1⟩; have HR1 := Lib.hid hr1; obtain ⟨c0, c1, c2, cf, cg, cb⟩ := hr1)
        have b3 := B3.out
        exact ⟨⟨j + 1, by omega, by push_cast; rfl, num_eq (by rw [hexN_succ]; push_cast; omega), HR1.out.step _ _ (by push_cast; omega)⟩, by simp only [RowKit.intOf]; omega⟩
      · have b0' : ¬ (b.toNat : Int) ≤ 57 := by omega
        have b1' : (97 : Int) ≤ (b.toNat : Int) := by omega
        have b2' : (b.toNat : Int) ≤ 102 := by omega
        have B3 := Lib.hid b3
        clear b1 b2 b3
        go_wp2_with (go_at_call 21; refine Hnx.out.mono ?_; rintro e w1 ⟨rfl, hr1⟩; have HR1 := Lib.hid hr1; obtain ⟨c0, c1, c2, cf, cg, cb⟩ := hr1)
        have b3 := B3.out
        exact ⟨⟨j + 1, by omega, by push_cast; rfl, num_eq (by rw [hexN_succ]; push_cast; omega), HR1.out.step _ _ (by push_cast; omega)⟩, by simp only [RowKit.intOf]; omega⟩
    · obtain rfl : j = 4 := by omega
      have HR1 := Lib.hid hr
      clear hr
      go_wp2
      go_ret
      exact ⟨rfl, HR1.out⟩

def EscPost (W : World) (g : Nat) (T : ByteArray) (k : Nat) (l : List UInt8) (e : Ending) (w' : World) : Prop := (∃ s : ByteArray, e = .returned (.string s) ∧ s.data.toList = l) ∧ Rdr W w' g T k

theorem enc_lo (c : Nat) (h : c < 128) : encodeRune (c : Int) = [UInt8.ofNat c] := by
  rw [encode_lo h]

set_option maxRecDepth 100000 in
set_option maxHeartbeats 1000000 in
theorem escape_34 (W w : World) (g : Nat) (T : ByteArray) (k : Nat) (hk : k < T.size) (hb : (T[k]'hk).toNat = 34) (hR : Rdr W w g T k) (hs : T.size ≤ 1000000000) :
    Calls Tryd.prog 28 #[.pointer (some ⟨g, 0, none⟩)] w (EscPost W g T (k + 1) (encodeRune ((34 : Nat) : Int))) := by
  have hnx := next_any W w g T k hk hR hs
  rw [hb] at hnx
  have Hnx := Lib.hid hnx
  clear hnx hb hR
  unfold EscPost
  go_enter Tryd.func28, Tryd.ntmps28
  go_wp2_with (go_at_call 21; refine Hnx.out.mono ?_; rintro e w1 ⟨rfl, hr1⟩; have HR1 := Lib.hid hr1; obtain ⟨c0, c1, c2, cf, cg, cb⟩ := hr1)
  go_ret
  exact ⟨⟨_, rfl, by decide⟩, HR1.out.step _ _ (by simp)⟩

set_option maxRecDepth 100000 in
set_option maxHeartbeats 1000000 in
theorem escape_92 (W w : World) (g : Nat) (T : ByteArray) (k : Nat) (hk : k < T.size) (hb : (T[k]'hk).toNat = 92) (hR : Rdr W w g T k) (hs : T.size ≤ 1000000000) :
    Calls Tryd.prog 28 #[.pointer (some ⟨g, 0, none⟩)] w (EscPost W g T (k + 1) (encodeRune ((92 : Nat) : Int))) := by
  have hnx := next_any W w g T k hk hR hs
  rw [hb] at hnx
  have Hnx := Lib.hid hnx
  clear hnx hb hR
  unfold EscPost
  go_enter Tryd.func28, Tryd.ntmps28
  go_wp2_with (go_at_call 21; refine Hnx.out.mono ?_; rintro e w1 ⟨rfl, hr1⟩; have HR1 := Lib.hid hr1; obtain ⟨c0, c1, c2, cf, cg, cb⟩ := hr1)
  go_ret
  exact ⟨⟨_, rfl, by decide⟩, HR1.out.step _ _ (by simp)⟩

set_option maxRecDepth 100000 in
set_option maxHeartbeats 1000000 in
theorem escape_110 (W w : World) (g : Nat) (T : ByteArray) (k : Nat) (hk : k < T.size) (hb : (T[k]'hk).toNat = 110) (hR : Rdr W w g T k) (hs : T.size ≤ 1000000000) :
    Calls Tryd.prog 28 #[.pointer (some ⟨g, 0, none⟩)] w (EscPost W g T (k + 1) (encodeRune ((10 : Nat) : Int))) := by
  have hnx := next_any W w g T k hk hR hs
  rw [hb] at hnx
  have Hnx := Lib.hid hnx
  clear hnx hb hR
  unfold EscPost
  go_enter Tryd.func28, Tryd.ntmps28
  go_wp2_with (go_at_call 21; refine Hnx.out.mono ?_; rintro e w1 ⟨rfl, hr1⟩; have HR1 := Lib.hid hr1; obtain ⟨c0, c1, c2, cf, cg, cb⟩ := hr1)
  go_ret
  exact ⟨⟨_, rfl, by decide⟩, HR1.out.step _ _ (by simp)⟩

set_option maxRecDepth 100000 in
set_option maxHeartbeats 1000000 in
theorem escape_114 (W w : World) (g : Nat) (T : ByteArray) (k : Nat) (hk : k < T.size) (hb : (T[k]'hk).toNat = 114) (hR : Rdr W w g T k) (hs : T.size ≤ 1000000000) :
    Calls Tryd.prog 28 #[.pointer (some ⟨g, 0, none⟩)] w (EscPost W g T (k + 1) (encodeRune ((13 : Nat) : Int))) := by
  have hnx := next_any W w g T k hk hR hs
  rw [hb] at hnx
  have Hnx := Lib.hid hnx
  clear hnx hb hR
  unfold EscPost
  go_enter Tryd.func28, Tryd.ntmps28
  go_wp2_with (go_at_call 21; refine Hnx.out.mono ?_; rintro e w1 ⟨rfl, hr1⟩; have HR1 := Lib.hid hr1; obtain ⟨c0, c1, c2, cf, cg, cb⟩ := hr1)
  go_ret
  exact ⟨⟨_, rfl, by decide⟩, HR1.out.step _ _ (by simp)⟩

set_option maxRecDepth 100000 in
set_option maxHeartbeats 1000000 in
theorem escape_116 (W w : World) (g : Nat) (T : ByteArray) (k : Nat) (hk : k < T.size) (hb : (T[k]'hk).toNat = 116) (hR : Rdr W w g T k) (hs : T.size ≤ 1000000000) :
    Calls Tryd.prog 28 #[.pointer (some ⟨g, 0, none⟩)] w (EscPost W g T (k + 1) (encodeRune ((9 : Nat) : Int))) := by
  have hnx := next_any W w g T k hk hR hs
  rw [hb] at hnx
  have Hnx := Lib.hid hnx
  clear hnx hb hR
  unfold EscPost
  go_enter Tryd.func28, Tryd.ntmps28
  go_wp2_with (go_at_call 21; refine Hnx.out.mono ?_; rintro e w1 ⟨rfl, hr1⟩; have HR1 := Lib.hid hr1; obtain ⟨c0, c1, c2, cf, cg, cb⟩ := hr1)
  go_ret
  exact ⟨⟨_, rfl, by decide⟩, HR1.out.step _ _ (by simp)⟩

set_option maxRecDepth 100000 in
set_option maxHeartbeats 1000000 in
theorem escape_117 (W w : World) (g : Nat) (T : ByteArray) (k : Nat) (d : Nat → Nat) (hd : ∀ j, d j < 16) (hk : k + 5 ≤ T.size) (hb : (T[k]'(by omega)).toNat = 117) (hdig : ∀ j, (hj : j < 4) → (T[k + 1 + j]'(by omega)) = hexD (d j))
    (hn : hexN d 4 < 55296) (hR : Rdr W w g T k) (hs : T.size ≤ 1000000000) :
    Calls Tryd.prog 28 #[.pointer (some ⟨g, 0, none⟩)] w (EscPost W g T (k + 5) (encodeRune (hexN d 4 : Int))) := by
  have hnx := next_any W w g T k (by omega) hR hs
  rw [hb] at hnx
  have Hnx := Lib.hid hnx
  have Hd := Lib.hid (And.intro hd hdig)
  obtain ⟨n, hnn⟩ : ∃ n, n = hexN d 4 := ⟨_, rfl⟩
  rw [← hnn] at hn ⊢
  have Hn := Lib.hid hnn
  clear hnx hb hR hd hdig hnn
  have hn1 : (n : Int) < 55296 := by omega
  unfold EscPost
  go_enter Tryd.func28, Tryd.ntmps28
  go_wp2_with (first
    | (go_at_call 21; refine Hnx.out.mono ?_; rintro e w1 ⟨rfl, hr1⟩; have HR1 := Lib.hid hr1; obtain ⟨c0, c1, c2, cf, cg, cb⟩ := hr1)
    | (go_at_call 30; refine (hex_rd W _ g T (k + 1) d Hd.out.1 (by omega) Hd.out.2 (HR1.out.step _ _ (by simp)) hs).mono ?_; rintro e w2 ⟨rfl, hr2⟩; have HR2 := Lib.hid hr2; clear hr2; rw [← Hn.out]))
  go_ret
  exact ⟨⟨_, rfl, enc_list n⟩, HR2.out⟩

/-- What stands behind a backslash. -/
theorem escape_rd (W w : World) (g : Nat) (T : ByteArray) (k c : Nat) (q t : List UInt8) (hq : Told q c) (hT : T.data.toList.drop k = q ++ t) (hR : Rdr W w g T k) (hs : T.size ≤ 1000000000) :
    Calls Tryd.prog 28 #[.pointer (some ⟨g, 0, none⟩)] w (EscPost W g T (k + q.length) (encodeRune (c : Int))) := by
  have hlen : q.length + t.length = T.size - k := by
    have := congrArg List.length hT
    rw [List.length_drop, ← size_eq, List.length_append] at this
    omega
  have hql := told_len hq
  have hk : k < T.size := by omega
  have hat : ∀ j, (hj : j < q.length) → (T[k + j]'(by omega)) = q[j]'hj := by
    intro j hj
    have h1 : (T.data.toList.drop k)[j]? = (q ++ t)[j]? := by rw [hT]
    rw [List.getElem?_drop, List.getElem?_append_left hj, List.getElem?_eq_getElem hj, List.getElem?_eq_getElem (by rw [← size_eq]; omega)] at h1
    exact Option.some.inj h1
  have h0 := hat 0 (by omega)
  simp only [Nat.add_zero] at h0
  rcases hq with ⟨rfl, rfl⟩ | ⟨rfl, rfl⟩ | ⟨rfl, rfl⟩ | ⟨rfl, rfl⟩ | ⟨rfl, rfl⟩ | ⟨d0, d1, d2, d3, g0, g1, g2, g3, rfl, hc, hc2⟩
  · exact escape_34 W w g T k hk (by rw [h0]; rfl) hR hs
  · exact escape_92 W w g T k hk (by rw [h0]; rfl) hR hs
  · exact escape_110 W w g T k hk (by rw [h0]; rfl) hR hs
  · exact escape_114 W w g T k hk (by rw [h0]; rfl) hR hs
  · exact escape_116 W w g T k hk (by rw [h0]; rfl) hR hs
  · have hlen5 : 5 + t.length = T.size - k := hlen
    have e : c = hexN (fun j => match j with | 0 => d0 | 1 => d1 | 2 => d2 | 3 => d3 | _ => 0) 4 := by rw [hc]; simp only [hexN]; omega
    rw [e] at hc2 ⊢
    refine escape_117 W w g T k _ (fun j => ?_) (by omega) (by rw [h0]; rfl) (fun j hj => ?_) hc2 hR hs
    · split <;> omega
    · have := hat (j + 1) (by simp; omega)
      simp only [Nat.add_assoc, Nat.add_comm 1 j]
      rw [this]
      have : j = 0 ∨ j = 1 ∨ j = 2 ∨ j = 3 := by omega
      rcases this with rfl | rfl | rfl | rfl <;> rfl

end Go.Proofs.YtngddccmkhghiaaDoor.Esc
