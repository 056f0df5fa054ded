/- How the values of package impl lie in memory: what a walk is told of them, and that it is kept while the call makes memory of its own. -/
import Derived.Test.YtihhgnbgejjijaaGreatDoorFacts
import Derived.Test.YtihhgnbgejjijaaGreatDoorData
import Derived.WalkKit
import Derived.WalkSpells
import Derived.WalkLawsBesides
import Derived.Lib.Hide
import Derived.Deep.RegionHeld3
import Derived.Deep.RegionWith
import Derived.Deep.Draws
namespace Go.Proofs.YtihhgnbgejjijaaGreatDoor.Va
set_option linter.unusedVariables false
set_option linter.unusedSimpArgs false
open Go Go.RowKit

/- How the walk asks whether a text is empty. -/
theorem toList_ne {s : ByteArray} (h : ¬ s = ByteArray.empty) : s.toList.isEmpty = false := by
  rw [ByteArray.toList_eq]
  cases hl : s.data.toList with
  | nil => exact absurd (by obtain ⟨⟨l⟩⟩ := s; simp only at hl; subst hl; rfl) h
  | cons _ _ => rfl
/-- How the walk compares two texts. -/
theorem toList_beq (s s' : ByteArray) : (s.toList == s'.toList) = decide (s = s') := by
  rw [Bool.eq_iff_iff, beq_iff_eq, decide_eq_true_iff, ByteArray.toList_eq, ByteArray.toList_eq]
  constructor
  · intro h
    obtain ⟨⟨a⟩⟩ := s
    obtain ⟨⟨b⟩⟩ := s'
    simp only at h
    subst h
    rfl
  · intro h; rw [h]
theorem int_beq (a b : Int) : (a == b) = decide (a = b) := by rw [Bool.eq_iff_iff, beq_iff_eq, decide_eq_true_iff]
theorem empty_of_size {s : ByteArray} (h : s.size = 0) : s = ByteArray.empty := by
  obtain ⟨⟨l⟩⟩ := s
  cases l with | nil => rfl | cons a b => simp [ByteArray.size] at h

/-- Every block that is there is there still, as it was. -/
def Keeps (w w' : World) : Prop := ∀ b, b < w.heap.size → w'.heap[b]? = w.heap[b]?

theorem Keeps.refl (w : World) : Keeps w w := fun _ _ => rfl
theorem Keeps.cell {w w' : World} (h : Keeps w w') {b o : Nat} {v : Value} (x : w.cell? ⟨b, o, none⟩ = some v) : w'.cell? ⟨b, o, none⟩ = some v :=
  (World.cell?_of_block (a := ⟨b, o, none⟩) (h b (World.block_lt_of_cell? w ⟨b, o, none⟩ x))).trans x
theorem heap_lt {a b : World} {k : Nat} (h : b.heap[k]? = a.heap[k]?) (hk : k < a.heap.size) : k < b.heap.size := by
  rw [Array.getElem?_eq_getElem hk] at h
  exact (Array.getElem?_eq_some_iff.1 h).1
theorem Keeps.trans {a b c : World} (h : Keeps a b) (k : Keeps b c) : Keeps a c := fun i x => (k i (heap_lt (h i x) x)).trans (h i x)
theorem keeps_of_below {w w' : World} (h : Below w.heap.size w w') : Keeps w w' := fun b hb => h.block b hb
theorem keeps_below {w wr w' : World} (hb : Below w.heap.size w wr) (h : Below wr.heap.size wr w') : Below w.heap.size w w' := hb.trans (h.mono hb.size)

/-- How the cells of a block from number B on are read and written behind a call: what a later step of the walk asks. -/
theorem bcell {W w1 : World} (hb : Below W.heap.size W w1) : (∀ b o, b < W.heap.size → w1.cell? ⟨b, o, none⟩ = W.cell? ⟨b, o, none⟩) ∧ (∀ b o, b < W.heap.size → w1.frozen? ⟨b, o, none⟩ = W.frozen? ⟨b, o, none⟩) :=
  ⟨fun b o h => hb.cell (p := ⟨b, o, none⟩) h, fun b o h => hb.frozen (p := ⟨b, o, none⟩) h⟩

theorem below_drewN {B : Nat} {a w : World} (h : Below B a w) (n : Nat) : Below B a (w.drewN n) := ⟨h.os, h.tape, h.output, h.size, h.block⟩

/- A Val at a place, and a row of Attrs from a place on. -/
mutual
def RVal (w : World) : GVal → Nat → Nat → Prop
  | .mk k n s t l, b, o => w.cell? ⟨b, o, none⟩ = some (.int .i64 k) ∧ w.cell? ⟨b, o + 1, none⟩ = some (.int .u64 n) ∧ w.cell? ⟨b, o + 2, none⟩ = some (.string s) ∧
      w.cell? ⟨b, o + 3, none⟩ = some (.int .i64 t.sec) ∧ w.cell? ⟨b, o + 4, none⟩ = some (.int .i64 t.nsec) ∧ w.cell? ⟨b, o + 5, none⟩ = some (.int .i64 t.off) ∧
      ∃ (A : Option Addr) (len cap : Nat), w.cell? ⟨b, o + 6, none⟩ = some (.slice A len cap) ∧ len = l.len ∧ (0 < len → ∃ b' o', A = some ⟨b', o', none⟩ ∧ RAs w l b' o')
def RAs (w : World) : GAttrs → Nat → Nat → Prop
  | .nil, _, _ => True
  | .cons key v r, b, o => w.cell? ⟨b, o, none⟩ = some (.string key) ∧ RVal w v b (o + 1) ∧ RAs w r b (o + 8)
end

/-- A slice of Attrs. -/
def RS (w : World) (l : GAttrs) (A : Option Addr) (len : Nat) : Prop := len = l.len ∧ (0 < len → ∃ b o, A = some ⟨b, o, none⟩ ∧ RAs w l b o)

mutual
theorem RVal.keep {w w' : World} (hk : Keeps w w') : ∀ (d : GVal) (b o : Nat), RVal w d b o → RVal w' d b o
  | .mk k n s t l, b, o, h => by
    unfold RVal at h ⊢
    obtain ⟨h0, h1, h2, h3, h4, h5, A, len, cap, h6, h7, h8⟩ := h
    exact ⟨hk.cell h0, hk.cell h1, hk.cell h2, hk.cell h3, hk.cell h4, hk.cell h5, A, len, cap, hk.cell h6, h7, fun hp => by
      obtain ⟨b', o', e, hr⟩ := h8 hp
      exact ⟨b', o', e, RAs.keep hk l b' o' hr⟩⟩
theorem RAs.keep {w w' : World} (hk : Keeps w w') : ∀ (l : GAttrs) (b o : Nat), RAs w l b o → RAs w' l b o
  | .nil, _, _, _ => by unfold RAs; trivial
  | .cons key v r, b, o, h => by
    unfold RAs at h ⊢
    exact ⟨hk.cell h.1, RVal.keep hk v b (o + 1) h.2.1, RAs.keep hk r b (o + 8) h.2.2⟩
end

theorem RS.keep {w w' : World} {l : GAttrs} {A : Option Addr} {len : Nat} (h : RS w l A len) (hk : Keeps w w') : RS w' l A len :=
  ⟨h.1, fun hp => by obtain ⟨b, o, e, hr⟩ := h.2 hp; exact ⟨b, o, e, RAs.keep hk l b o hr⟩⟩

theorem RS.nil_ (w : World) (A : Option Addr) : RS w .nil A 0 := ⟨rfl, fun h => absurd h (by omega)⟩

/-- A Val as a value. -/
def vVal (d : GVal) (A : Option Addr) (len cap : Nat) : Value := .agg #[.int .i64 d.kind, .int .u64 d.n, .string d.s, .int .i64 d.t.sec, .int .i64 d.t.nsec, .int .i64 d.t.off, .slice A len cap]

attribute [go_sem] vVal

section
variable (k n : Int) (s : ByteArray) (t : GTime) (l : GAttrs)
@[go_sem] theorem kind_mk : (GVal.mk k n s t l).kind = k := rfl
@[go_sem] theorem n_mk : (GVal.mk k n s t l).n = n := rfl
@[go_sem] theorem s_mk : (GVal.mk k n s t l).s = s := rfl
@[go_sem] theorem t_mk : (GVal.mk k n s t l).t = t := rfl
@[go_sem] theorem l_mk : (GVal.mk k n s t l).l = l := rfl
end

theorem size_pos (d : GVal) : 1 ≤ d.size := by
  obtain ⟨k, n, s, t, l⟩ := d
  unfold GVal.size
  omega

/- The same, and in which blocks the rows of attributes lie. -/
mutual
def RValP (P : Nat → Prop) (w : World) : GVal → Nat → Nat → Prop
  | .mk k n s t l, b, o => w.cell? ⟨b, o, none⟩ = some (.int .i64 k) ∧ w.cell? ⟨b, o + 1, none⟩ = some (.int .u64 n) ∧ w.cell? ⟨b, o + 2, none⟩ = some (.string s) ∧
      w.cell? ⟨b, o + 3, none⟩ = some (.int .i64 t.sec) ∧ w.cell? ⟨b, o + 4, none⟩ = some (.int .i64 t.nsec) ∧ w.cell? ⟨b, o + 5, none⟩ = some (.int .i64 t.off) ∧
      ∃ (A : Option Addr) (len cap : Nat), w.cell? ⟨b, o + 6, none⟩ = some (.slice A len cap) ∧ len = l.len ∧ (0 < len → ∃ b' o', A = some ⟨b', o', none⟩ ∧ P b' ∧ RAsP P w l b' o')
def RAsP (P : Nat → Prop) (w : World) : GAttrs → Nat → Nat → Prop
  | .nil, _, _ => True
  | .cons key v r, b, o => w.cell? ⟨b, o, none⟩ = some (.string key) ∧ RValP P w v b (o + 1) ∧ RAsP P w r b (o + 8)
end
def RSP (P : Nat → Prop) (w : World) (l : GAttrs) (A : Option Addr) (len : Nat) : Prop := len = l.len ∧ (0 < len → ∃ b o, A = some ⟨b, o, none⟩ ∧ P b ∧ RAsP P w l b o)

theorem len_pos {l : GAttrs} (h : 0 < l.len) : ∃ k v r, l = .cons k v r := by
  cases l with | nil => simp [GAttrs.len] at h | cons k v r => exact ⟨k, v, r, rfl⟩

/-- A row that is not empty lies in a block that is there. -/
theorem RAsP.lt {P : Nat → Prop} {w : World} {l : GAttrs} {b o : Nat} (hl : 0 < l.len) (h : RAsP P w l b o) : b < w.heap.size := by
  obtain ⟨k, v, r, rfl⟩ := len_pos hl
  unfold RAsP at h
  exact World.block_lt_of_cell? w ⟨b, o, none⟩ h.1

mutual
theorem RValP.rval {P : Nat → Prop} {w : World} : ∀ (d : GVal) (b o : Nat), RValP P w d b o → RVal w d b o
  | .mk k n s t l, b, o, h => by
    unfold RValP at h
    unfold RVal
    obtain ⟨h0, h1, h2, h3, h4, h5, A, len, cap, h6, h7, h8⟩ := h
    exact ⟨h0, h1, h2, h3, h4, h5, A, len, cap, h6, h7, fun hp => by
      obtain ⟨b', o', e, _, hr⟩ := h8 hp
      exact ⟨b', o', e, RAsP.ras l b' o' hr⟩⟩
theorem RAsP.ras {P : Nat → Prop} {w : World} : ∀ (l : GAttrs) (b o : Nat), RAsP P w l b o → RAs w l b o
  | .nil, _, _, _ => by unfold RAs; trivial
  | .cons key v r, b, o, h => by
    unfold RAsP at h
    unfold RAs
    exact ⟨h.1, RValP.rval v b (o + 1) h.2.1, RAsP.ras r b (o + 8) h.2.2⟩
end
theorem RSP.rs {P : Nat → Prop} {w : World} {l : GAttrs} {A : Option Addr} {len : Nat} (h : RSP P w l A len) : RS w l A len :=
  ⟨h.1, fun hp => by obtain ⟨b, o, e, _, hr⟩ := h.2 hp; exact ⟨b, o, e, RAsP.ras l b o hr⟩⟩

/-- The named blocks that are there. -/
def KeepsOn (P : Nat → Prop) (w w' : World) : Prop := ∀ b, P b → b < w.heap.size → w'.heap[b]? = w.heap[b]?
theorem Keeps.on {w w' : World} (h : Keeps w w') (P : Nat → Prop) : KeepsOn P w w' := fun b _ x => h b x
theorem KeepsOn.cell {P : Nat → Prop} {w w' : World} (h : KeepsOn P w w') {b o : Nat} {v : Value} (hp : P b) (x : w.cell? ⟨b, o, none⟩ = some v) : w'.cell? ⟨b, o, none⟩ = some v :=
  (World.cell?_of_block (a := ⟨b, o, none⟩) (h b hp (World.block_lt_of_cell? w ⟨b, o, none⟩ x))).trans x
theorem KeepsOn.refl (P : Nat → Prop) (w : World) : KeepsOn P w w := fun _ _ _ => rfl
theorem KeepsOn.trans {P : Nat → Prop} {a b c : World} (h : KeepsOn P a b) (k : KeepsOn P b c) : KeepsOn P a c := fun i hp x => (k i hp (heap_lt (h i hp x) x)).trans (h i hp x)
theorem KeepsOn.setCell {P : Nat → Prop} {w w1 : World} (h : KeepsOn P w w1) {p : Addr} (hne : ∀ b, P b → b ≠ p.block) (u : Value) : KeepsOn P w (w1.setCell p u) := fun b hp x =>
  (Below.heap_setCell w1 p u b (hne b hp)).trans (h b hp x)
theorem KeepsOn.alloc {P : Nat → Prop} {w w1 : World} (h : KeepsOn P w w1) (o : Obj) : KeepsOn P w (w1.alloc o) := fun b hp x =>
  (Below.heap_alloc w1 o b (heap_lt (h b hp x) x)).trans (h b hp x)
theorem KeepsOn.drew {P : Nat → Prop} {w w1 : World} (h : KeepsOn P w w1) : KeepsOn P w w1.drew := fun b hp x => h b hp x
theorem keepsOn_of_below {w w' : World} (h : Below w.heap.size w w') (P : Nat → Prop) : KeepsOn P w w' := (keeps_of_below h).on P
theorem keepsOn_of_grown {w w' : World} {row : Option Nat} (hg : w.grownBy w' row) {P : Nat → Prop} (hP : ∀ b, P b → some b ≠ row) : KeepsOn P w w' := fun b hp x =>
  hg.block b x (hP b hp)

mutual
/-- The row's own block may be another one than the named ones. -/
theorem RValP.turn {P Q : Nat → Prop} {w w' : World} (hk : KeepsOn P w w') (hq : ∀ b, P b → b < w.heap.size → Q b) : ∀ (d : GVal) (b o : Nat), P b → RValP P w d b o → RValP Q w' d b o
  | .mk k n s t l, b, o, hp, h => by
    unfold RValP at h ⊢
    obtain ⟨h0, h1, h2, h3, h4, h5, A, len, cap, h6, h7, h8⟩ := h
    exact ⟨hk.cell hp h0, hk.cell hp h1, hk.cell hp h2, hk.cell hp h3, hk.cell hp h4, hk.cell hp h5, A, len, cap, hk.cell hp h6, h7, fun hlt => by
      obtain ⟨b', o', e, hpb, hr⟩ := h8 hlt
      exact ⟨b', o', e, hq b' hpb (RAsP.lt (by omega) hr), RAsP.turn hk hq l b' o' hpb hr⟩⟩
theorem RAsP.turn {P Q : Nat → Prop} {w w' : World} (hk : KeepsOn P w w') (hq : ∀ b, P b → b < w.heap.size → Q b) : ∀ (l : GAttrs) (b o : Nat), P b → RAsP P w l b o → RAsP Q w' l b o
  | .nil, _, _, _, _ => by unfold RAsP; trivial
  | .cons key v r, b, o, hp, h => by
    unfold RAsP at h ⊢
    exact ⟨hk.cell hp h.1, RValP.turn hk hq v b (o + 1) hp h.2.1, RAsP.turn hk hq r b (o + 8) hp h.2.2⟩
end
theorem RSP.turn {P Q : Nat → Prop} {w w' : World} {l : GAttrs} {A : Option Addr} {len : Nat} (h : RSP P w l A len) (hk : KeepsOn P w w') (hq : ∀ b, P b → b < w.heap.size → Q b) : RSP Q w' l A len :=
  ⟨h.1, fun hp => by
    obtain ⟨b, o, e, hpb, hr⟩ := h.2 hp
    exact ⟨b, o, e, hq b hpb (RAsP.lt (by have := h.1; omega) hr), RAsP.turn hk hq l b o hpb hr⟩⟩
theorem RSP.keep {P : Nat → Prop} {w w' : World} {l : GAttrs} {A : Option Addr} {len : Nat} (h : RSP P w l A len) (hk : Keeps w w') : RSP P w' l A len := h.turn (hk.on P) (fun _ x _ => x)
theorem RSP.nil_ (P : Nat → Prop) (w : World) (A : Option Addr) : RSP P w .nil A 0 := ⟨rfl, fun h => absurd h (by omega)⟩

/- A row of attributes as a list of cells (what the call's own row holds). -/
def RXs (P : Nat → Prop) (w : World) : GAttrs → List Value → Prop
  | .nil, xs => xs = []
  | .cons key (.mk k n s t l) r, xs => ∃ A len cap ys, xs = .string key :: .int .i64 k :: .int .u64 n :: .string s :: .int .i64 t.sec :: .int .i64 t.nsec :: .int .i64 t.off :: .slice A len cap :: ys ∧ RSP P w l A len ∧ RXs P w r ys

theorem RXs.turn {P Q : Nat → Prop} {w w' : World} (hk : KeepsOn P w w') (hq : ∀ b, P b → b < w.heap.size → Q b) : ∀ (l : GAttrs) (xs : List Value), RXs P w l xs → RXs Q w' l xs
  | .nil, xs, h => h
  | .cons key (.mk k n s t l) r, xs, h => by
    obtain ⟨A, len, cap, ys, e, hl, hr⟩ := h
    exact ⟨A, len, cap, ys, e, hl.turn hk hq, RXs.turn hk hq r ys hr⟩

theorem RXs.snoc {P : Nat → Prop} {w : World} {key : ByteArray} {d : GVal} {A : Option Addr} {len cap : Nat} (hd : RSP P w d.l A len) : ∀ (l : GAttrs) (xs : List Value), RXs P w l xs →
    RXs P w (l.snoc key d) (xs ++ [.string key, .int .i64 d.kind, .int .u64 d.n, .string d.s, .int .i64 d.t.sec, .int .i64 d.t.nsec, .int .i64 d.t.off, .slice A len cap])
  | .nil, xs, h => by
    obtain ⟨k, n, s, t, l⟩ := d
    cases h
    exact ⟨A, len, cap, [], rfl, hd, rfl⟩
  | .cons key' (.mk k n s t l) r, xs, h => by
    obtain ⟨A', len', cap', ys, rfl, hl, hr⟩ := h
    exact ⟨A', len', cap', ys ++ _, rfl, hl, RXs.snoc hd r ys hr⟩

theorem RXs.len {P : Nat → Prop} {w : World} : ∀ (l : GAttrs) (xs : List Value), RXs P w l xs → xs.length = l.len * 8
  | .nil, xs, h => by cases h; rfl
  | .cons key (.mk k n s t l) r, xs, h => by
    obtain ⟨A', len', cap', ys, rfl, hl, hr⟩ := h
    have := RXs.len r ys hr
    simp only [List.length_cons, GAttrs.len]
    omega

/-- The cells lie in a row. -/
theorem RXs.ras {P : Nat → Prop} {w : World} : ∀ (l : GAttrs) (xs : List Value) (b o : Nat), RXs P w l xs → (∀ j u, xs[j]? = some u → w.cell? ⟨b, o + j, none⟩ = some u) → RAsP P w l b o
  | .nil, xs, b, o, _, _ => by unfold RAsP; trivial
  | .cons key (.mk k n s t l) r, xs, b, o, h, hc => by
    obtain ⟨A, len, cap, ys, rfl, hl, hr⟩ := h
    unfold RAsP RValP
    refine ⟨hc 0 _ rfl, ⟨hc 1 _ rfl, hc 2 _ rfl, hc 3 _ rfl, hc 4 _ rfl, hc 5 _ rfl, hc 6 _ rfl, A, len, cap, hc 7 _ rfl, hl.1, hl.2⟩, RXs.ras r ys b (o + 8) hr fun j u hj => ?_⟩
    have := hc (j + 8) u (by simpa using hj)
    rwa [show o + 8 + j = o + (j + 8) by omega]

theorem cell_new (w : World) (cs : Array Value) (t : TypeId) (g j : Nat) (v : Value) (hg : g = w.heap.size) (hv : cs[j]? = some v) : (w.alloc (.cells cs t)).cell? ⟨g, j, none⟩ = some v := by
  subst hg
  rw [cell_of_row _ w.heap.size j cs t (0, 0) (heap_alloc_new w _)]
  exact hv

theorem cells_new (w : World) (cs : Array Value) (t : TypeId) (g : Nat) (hg : g = w.heap.size) (j : Nat) (v : Value) (hv : cs.toList[j]? = some v) : (w.alloc (.cells cs t)).cell? ((⟨g, 0, none⟩ : Addr).add j) = some v := by
  have hadd : (⟨g, 0, none⟩ : Addr).add j = ⟨g, j, none⟩ := by unfold Addr.add; split <;> simp_all
  rw [hadd]
  exact cell_new w cs t g j v hg (by simpa using hv)

/-- The call's own row is kept by what makes memory of its own. -/
theorem own_below {w w' : World} {base : Nat} {e : TypeId} {size : Nat} {v : Value} {n : Nat} {xs : List Value} (h : w.ownsRow base e size v n xs) (hb : Below w.heap.size w w') : w'.ownsRow base e size v n xs := by
  refine ⟨h.1, ?_⟩
  rcases h.2 with hn | ⟨g, cap, cur, rfl, hbg, hgg, rest⟩
  · exact .inl hn
  · refine .inr ⟨g, cap, cur, rfl, hbg, ?_, rest⟩
    rw [hb.block g (Array.getElem?_eq_some_iff.1 hgg).1]
    exact hgg

/-- The blocks of the call's own but the row's. -/
abbrev Beside (base : Nat) (v : Value) : Nat → Prop := fun b => base ≤ b ∧ some b ≠ v.ownBlock

theorem len_le_size : ∀ l : GAttrs, l.len ≤ l.size
  | .nil => by simp [GAttrs.len, GAttrs.size]
  | .cons _ v r => by have := len_le_size r; have : 1 ≤ v.size := by { obtain ⟨k, n, s, t, l⟩ := v; unfold GVal.size; omega }; simp only [GAttrs.len, GAttrs.size]; omega

theorem append_nil : ∀ l : GAttrs, l.append .nil = l
  | .nil => rfl
  | .cons k v r => by show GAttrs.cons k v (r.append .nil) = _; rw [append_nil r]
theorem snoc_append (k : ByteArray) (v : GVal) (m : GAttrs) : ∀ l : GAttrs, (l.snoc k v).append m = l.append (.cons k v m)
  | .nil => rfl
  | .cons k' v' r => by show GAttrs.cons k' v' ((r.snoc k v).append m) = GAttrs.cons k' v' _; rw [snoc_append k v m r]
theorem len_snoc (k : ByteArray) (v : GVal) : ∀ l : GAttrs, (l.snoc k v).len = l.len + 1
  | .nil => rfl
  | .cons k' v' r => by show (r.snoc k v).len + 1 = _; rw [len_snoc k v r]; rfl

/-- One attribute in a new block. -/
theorem ras_single {P : Nat → Prop} {w1 : World} {t : TypeId} {key : ByteArray} {d : GVal} {A : Option Addr} {len cap g : Nat} (hg : g = w1.heap.size)
    (hd : RSP P (w1.alloc (.cells #[.string key, .int .i64 d.kind, .int .u64 d.n, .string d.s, .int .i64 d.t.sec, .int .i64 d.t.nsec, .int .i64 d.t.off, .slice A len cap] t)) d.l A len) :
    RAsP P (w1.alloc (.cells #[.string key, .int .i64 d.kind, .int .u64 d.n, .string d.s, .int .i64 d.t.sec, .int .i64 d.t.nsec, .int .i64 d.t.off, .slice A len cap] t)) (.cons key d .nil) g 0 := by
  obtain ⟨k, n, s, t', l⟩ := d
  unfold RAsP RValP
  refine ⟨cell_new _ _ _ _ _ _ hg rfl, ⟨cell_new _ _ _ _ _ _ hg rfl, cell_new _ _ _ _ _ _ hg rfl, cell_new _ _ _ _ _ _ hg rfl, cell_new _ _ _ _ _ _ hg rfl, cell_new _ _ _ _ _ _ hg rfl, cell_new _ _ _ _ _ _ hg rfl,
    A, len, cap, cell_new _ _ _ _ _ _ hg rfl, hd.1, hd.2⟩, by unfold RAsP; trivial⟩

/-- What the call's own row is as a slice of attributes. -/
theorem rsp_of_owns {w : World} {base : Nat} {e : TypeId} {P Q : Nat → Prop} {l : GAttrs} {xs : List Value} {v : Value} {n : Nat} (hown : w.ownsRow base e 8 v n xs) (hx : RXs P w l xs)
    (hP : ∀ b, P b → Q b) (hQ : ∀ b, base ≤ b → Q b) : ∃ A cap, v = .slice A n cap ∧ RSP Q w l A n := by
  have hlen := RXs.len l xs hx
  have h1 := hown.1
  have hx' : RXs Q w l xs := RXs.turn (P := P) (KeepsOn.refl _ _) (fun b h _ => hP b h) l xs hx
  rcases hown.2 with ⟨rfl, rfl⟩ | ⟨g, cap, cur, rfl, hb, hg, hnc, hcm, hcs, htake⟩
  · exact ⟨none, 0, rfl, by omega, fun h => absurd h (by omega)⟩
  · refine ⟨_, cap, rfl, by omega, fun h => ⟨g, 0, rfl, hQ g hb, RXs.ras l xs g 0 hx' fun j u hu => ?_⟩⟩
    have h3 := hown.cells (g := g) rfl j u hu
    have hadd : (⟨g, 0, none⟩ : Addr).add j = ⟨g, 0 + j, none⟩ := by unfold Addr.add; split <;> simp_all
    rwa [hadd] at h3

end Go.Proofs.YtihhgnbgejjijaaGreatDoor.Va
