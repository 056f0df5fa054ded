/- impl.AttrEqual. -/
import Derived.Test.YtcgdnjigocknbaaDoorAClos
import Derived.Deep.Cut
import Derived.Deep.DeepCutAuto
namespace Go.Proofs.YtcgdnjigocknbaaDoor.Va
set_option linter.unusedVariables false
set_option linter.unusedSimpArgs false
open Go Go.RowKit

/-- An Attr of package impl lies in a box of its own. -/
def ABox (w : World) (b : Nat) (key : ByteArray) (d : GVal) (A : Option Addr) (len cap : Nat) : Prop :=
  w.cell? ⟨b, 0, none⟩ = some (.string key) ∧ w.cell? ⟨b, 1, none⟩ = some (.int .i64 d.kind) ∧ w.cell? ⟨b, 2, none⟩ = some (.int .u64 d.n) ∧ w.cell? ⟨b, 3, none⟩ = some (.string d.s) ∧ w.cell? ⟨b, 4, none⟩ = some (.int .i64 d.t.sec) ∧ w.cell? ⟨b, 5, none⟩ = some (.int .i64 d.t.nsec) ∧ w.cell? ⟨b, 6, none⟩ = some (.int .i64 d.t.off) ∧ w.cell? ⟨b, 7, none⟩ = some (.slice A len cap)
theorem ABox.keep {w w' : World} {b : Nat} {key : ByteArray} {d : GVal} {A : Option Addr} {len cap : Nat} (h : ABox w b key d A len cap) (hk : Keeps w w') : ABox w' b key d A len cap :=
  ⟨hk.cell h.1, hk.cell h.2.1, hk.cell h.2.2.1, hk.cell h.2.2.2.1, hk.cell h.2.2.2.2.1, hk.cell h.2.2.2.2.2.1, hk.cell h.2.2.2.2.2.2.1, hk.cell h.2.2.2.2.2.2.2⟩
theorem abox_new (w : World) (t : TypeId) (key : ByteArray) (d : GVal) (A : Option Addr) (len cap n : Nat) (hn : n = w.heap.size) : ABox (w.alloc (.cells #[.string key, .int .i64 d.kind, .int .u64 d.n, .string d.s, .int .i64 d.t.sec, .int .i64 d.t.nsec, .int .i64 d.t.off, .slice A len cap] t)) n key d A len cap :=
  ⟨cell_new _ _ _ _ _ _ hn rfl, cell_new _ _ _ _ _ _ hn rfl, cell_new _ _ _ _ _ _ hn rfl, cell_new _ _ _ _ _ _ hn rfl, cell_new _ _ _ _ _ _ hn rfl, cell_new _ _ _ _ _ _ hn rfl, cell_new _ _ _ _ _ _ hn rfl, cell_new _ _ _ _ _ _ hn rfl⟩
theorem cells16 {wx : World} {ba bb : Nat} {key key' : ByteArray} {da db : GVal} {A A' : Option Addr} {len cap len' cap' : Nat} (h : ABox wx ba key da A len cap ∧ ABox wx bb key' db A' len' cap') :
    wx.cell? ⟨ba, 0, none⟩ = some (.string key) ∧ wx.cell? ⟨ba, 1, none⟩ = some (.int .i64 da.kind) ∧ wx.cell? ⟨ba, 2, none⟩ = some (.int .u64 da.n) ∧ wx.cell? ⟨ba, 3, none⟩ = some (.string da.s) ∧ wx.cell? ⟨ba, 4, none⟩ = some (.int .i64 da.t.sec) ∧ wx.cell? ⟨ba, 5, none⟩ = some (.int .i64 da.t.nsec) ∧ wx.cell? ⟨ba, 6, none⟩ = some (.int .i64 da.t.off) ∧ wx.cell? ⟨ba, 7, none⟩ = some (.slice A len cap) ∧
    wx.cell? ⟨bb, 0, none⟩ = some (.string key') ∧ wx.cell? ⟨bb, 1, none⟩ = some (.int .i64 db.kind) ∧ wx.cell? ⟨bb, 2, none⟩ = some (.int .u64 db.n) ∧ wx.cell? ⟨bb, 3, none⟩ = some (.string db.s) ∧ wx.cell? ⟨bb, 4, none⟩ = some (.int .i64 db.t.sec) ∧ wx.cell? ⟨bb, 5, none⟩ = some (.int .i64 db.t.nsec) ∧ wx.cell? ⟨bb, 6, none⟩ = some (.int .i64 db.t.off) ∧ wx.cell? ⟨bb, 7, none⟩ = some (.slice A' len' cap') := by
  obtain ⟨⟨a0, a1, a2, a3, a4, a5, a6, a7⟩, b0, b1, b2, b3, b4, b5, b6, b7⟩ := h
  exact ⟨a0, a1, a2, a3, a4, a5, a6, a7, b0, b1, b2, b3, b4, b5, b6, b7⟩

/-- What impl.valueOf hands back, with the second cell's form. -/
def ValPostN (nil : Bool) (v : SVal) (w : World) (e : Ending) (w' : World) : Prop := ∃ i y, e = .returned (.agg #[.int .u64 i, y]) ∧ (match nil with | true => y = .nilIface | false => ∃ t u, y = .iface t u) ∧ RSV (New w) w' v (.int .u64 i) y ∧ Below w.heap.size w w'

/-- Is the value nil? -/
def isNil : SVal → Bool
  | .any .nil => true
  | _ => false
theorem nil_shape {P : Nat → Prop} {w : World} {d : SVal} {x y : Value} (h : RSV P w d x y) : (match isNil d with | true => y = .nilIface | false => ∃ t u, y = .iface t u) := by
  cases d with
  | any g =>
    unfold RSV at h
    cases g with
    | nil => exact h.2
    | bytes s => obtain ⟨_, A, len, cap, e, _⟩ := h; exact ⟨_, _, e⟩
    | source f s n => obtain ⟨_, b, e, _⟩ := h; exact ⟨_, _, e⟩
    | made s => exact h.2.elim
    | _ => exact ⟨_, _, h.2⟩
  | num k n => unfold RSV at h; exact ⟨_, _, h.2.1⟩
  | str s => unfold RSV at h; exact ⟨_, _, h.2⟩
  | time t => unfold RSV at h; exact ⟨_, _, h.2⟩
  | group l => unfold RSV at h; obtain ⟨A, len, cap, _, e, _⟩ := h; exact ⟨_, _, e⟩
  | valuer n v c => unfold RSV at h; obtain ⟨vx, vy, _, e, _⟩ := h; exact ⟨_, _, e⟩
  | throws s c => unfold RSV at h; exact ⟨_, _, h.2⟩
theorem valPostN {d : SVal} {w : World} {e : Ending} {w' : World} (h : ValPost d w e w') : ValPostN (isNil d) d w e w' := by
  obtain ⟨x, y, he, hr, hb⟩ := h
  obtain ⟨i, rfl⟩ := rsv_num hr
  exact ⟨i, y, he, nil_shape hr, hr, hb⟩

theorem two_end {w1 w2 wx : World} {n1 n2 c1 c2 : Nat} {sa sb : SVal} {xa ya xb yb : Value} (h1 : RSV (fun b => n1 ≤ b) w1 sa xa ya) (hk : Keeps w1 w2) (h2 : RSV (fun b => n2 ≤ b) w2 sb xb yb) (hn : w1.heap.size ≤ n2)
    (hf : KeepsOn (fun b => b ≠ c1 ∧ b ≠ c2) w2 wx) (hc1 : c1 < n1 ∨ (w1.heap.size ≤ c1 ∧ c1 < n2) ∨ w2.heap.size ≤ c1) (hc2 : c2 < n1 ∨ (w1.heap.size ≤ c2 ∧ c2 < n2) ∨ w2.heap.size ≤ c2) (hn1 : n1 ≤ n2) (hs : w1.heap.size ≤ w2.heap.size) :
    ∃ P P' : Nat → Prop, (∀ b, P b → ¬ P' b) ∧ RSV P wx sa xa ya ∧ RSV P' wx sb xb yb := by
  refine ⟨fun b => n1 ≤ b ∧ b < w1.heap.size, fun b => n2 ≤ b ∧ b < w2.heap.size, fun b h h' => by omega, ?_, ?_⟩
  · have g : RSV (fun b => n1 ≤ b ∧ b < w1.heap.size) w2 sa xa ya := (h1.turn (KeepsOn.refl _ _) (fun b h h' => ⟨h, h'⟩)).turn (hk.on _) (fun b h _ => h)
    exact g.turn (fun b hb hl => hf b (by omega) hl) (fun b h _ => h)
  · have g : RSV (fun b => n2 ≤ b ∧ b < w2.heap.size) w2 sb xb yb := h2.turn (KeepsOn.refl _ _) (fun b h h' => ⟨h, h'⟩)
    exact g.turn (fun b hb hl => hf b (by omega) hl) (fun b h _ => h)

/-- What the two boxes of the comparison hold behind the first statement. -/
def TwoAttrs (w : World) (key key' : ByteArray) (sa sb : SVal) (v6 v7 : Value) (wx : World) : Prop := ∃ b1 b2 i y i' y', v6 = .pointer (some ⟨b1, 0, none⟩) ∧ v7 = .pointer (some ⟨b2, 0, none⟩) ∧
  SBox wx b1 key (.int .u64 i) y ∧ SBox wx b2 key' (.int .u64 i') y' ∧ Shape y ∧ Shape y' ∧ (∃ P P' : Nat → Prop, (∀ b, P b → ¬ P' b) ∧ RSV P wx sa (.int .u64 i) y ∧ RSV P' wx sb (.int .u64 i') y') ∧ Below w.heap.size w wx ∧
  wx.cell? ⟨w.heap.size + 1 + 1, 0, none⟩ = some (.bool false) ∧ wx.frozen? ⟨w.heap.size + 1 + 1, 0, none⟩ = false

theorem sbox_three {w : World} {c : Nat} {key : ByteArray} {x y : Value} (h : SBox w c ⟨#[]⟩ (.int .u64 0) .nilIface) : SBox (((w.setCell ⟨c, 0, none⟩ (.string key)).setCell ⟨c, 1, none⟩ x).setCell ⟨c, 2, none⟩ y) c key x y := by
  obtain ⟨h0, h1, h2⟩ := h
  have n1 : (⟨c, 0, none⟩ : Addr) ≠ ⟨c, 1, none⟩ := by simp
  have n2 : (⟨c, 0, none⟩ : Addr) ≠ ⟨c, 2, none⟩ := by simp
  have n3 : (⟨c, 1, none⟩ : Addr) ≠ ⟨c, 2, none⟩ := by simp
  refine ⟨?_, ?_, ?_⟩
  · rw [World.cell?_setCell_other _ _ _ _ n2.symm, World.cell?_setCell_other _ _ _ _ n1.symm]
    exact World.cell?_setCell_same _ _ _ h0
  · rw [World.cell?_setCell_other _ _ _ _ n3.symm]
    exact World.cell?_setCell_same _ _ _ ((World.cell?_setCell_other _ _ _ _ n1).trans h1)
  · exact World.cell?_setCell_same _ _ _ ((World.cell?_setCell_other _ _ _ _ n3).trans ((World.cell?_setCell_other _ _ _ _ n2).trans h2))
theorem cell_set3 {w : World} {c c' j : Nat} {a b d : Value} (hne : c ≠ c') : (((w.setCell ⟨c, 0, none⟩ a).setCell ⟨c, 1, none⟩ b).setCell ⟨c, 2, none⟩ d).cell? ⟨c', j, none⟩ = w.cell? ⟨c', j, none⟩ := by
  rw [World.cell?_setCell_other _ _ _ _ (by simp [hne]), World.cell?_setCell_other _ _ _ _ (by simp [hne]), World.cell?_setCell_other _ _ _ _ (by simp [hne])]
theorem sbox_set3 {w : World} {c c' : Nat} {key : ByteArray} {x y a b d : Value} (hne : c ≠ c') (h : SBox w c' key x y) : SBox (((w.setCell ⟨c, 0, none⟩ a).setCell ⟨c, 1, none⟩ b).setCell ⟨c, 2, none⟩ d) c' key x y :=
  ⟨(cell_set3 hne).trans h.1, (cell_set3 hne).trans h.2.1, (cell_set3 hne).trans h.2.2⟩
theorem sbox_new (w : World) (key : ByteArray) (x y : Value) (t : TypeId) (n : Nat) (hn : n = w.heap.size) : SBox (w.alloc (.cells #[.string key, x, y] t)) n key x y := ⟨cell_new _ _ _ _ _ _ hn rfl, cell_new _ _ _ _ _ _ hn rfl, cell_new _ _ _ _ _ _ hn rfl⟩

theorem sbox_drew {w : World} {c : Nat} {key : ByteArray} {x y : Value} (h : SBox w c key x y) : SBox w.drew c key x y := h.keep (keeps_drew _)
theorem sbox_alloc {w : World} {o : Obj} {c : Nat} {key : ByteArray} {x y : Value} (h : SBox w c key x y) : SBox (w.alloc o) c key x y := h.keep (keeps_alloc _ _)
theorem sbox_below {w w' : World} {c : Nat} {key : ByteArray} {x y : Value} (hb : Below w.heap.size w w') (h : SBox w c key x y) : SBox w' c key x y := h.keep (keeps_of_below hb)

/-- The places of the two boxes: made ahead of the first call, between the calls, or behind them. -/
def Places (n1 n2 n3 n4 c : Nat) : Prop := c < n1 ∨ (n2 ≤ c ∧ c < n3) ∨ n4 ≤ c
theorem attrs_end {w W wa w1 wb w2 wx : World} {key key' : ByteArray} {sa sb : SVal} {i i' : Int} {y y' : Value} {b1 b2 : Nat}
    (hk1 : Keeps wa w1) (hk2 : Keeps wb w2) (h1 : RSV (New wa) w1 sa (.int .u64 i) y) (h2 : RSV (New wb) w2 sb (.int .u64 i') y')
    (hW : Below w.heap.size w W) (hB2 : Below W.heap.size W w2) (cg : W.cell? ⟨w.heap.size + 1 + 1, 0, none⟩ = some (.bool false)) (fg : W.frozen? ⟨w.heap.size + 1 + 1, 0, none⟩ = false) (hs : w.heap.size + 1 + 1 < W.heap.size)
    (hord : wa.heap.size ≤ w1.heap.size ∧ w1.heap.size ≤ wb.heap.size ∧ wb.heap.size ≤ w2.heap.size ∧ Keeps w1 wb) (hf : KeepsOn (fun b => b ≠ b1 ∧ b ≠ b2) w2 wx)
    (hp : Places wa.heap.size w1.heap.size wb.heap.size w2.heap.size b1 ∧ Places wa.heap.size w1.heap.size wb.heap.size w2.heap.size b2 ∧ W.heap.size ≤ b1 ∧ W.heap.size ≤ b2)
    (hB : Below W.heap.size W wx) (hc : SBox wx b1 key (.int .u64 i) y ∧ SBox wx b2 key' (.int .u64 i') y') : TwoAttrs w key key' sa sb (.pointer (some ⟨b1, 0, none⟩)) (.pointer (some ⟨b2, 0, none⟩)) wx := by
  obtain ⟨o1, o2, o3, o4⟩ := hord
  obtain ⟨p1, p2, p3, p4⟩ := hp
  have sh : ∀ {P : Nat → Prop} {w : World} {d : SVal} {x y : Value}, RSV P w d x y → Shape y := fun h => by
    have := nil_shape h
    split at this
    · exact .inl this
    · exact .inr this
  refine ⟨b1, b2, i, y, i', y', rfl, rfl, hc.1, hc.2, sh h1, sh h2, ?_, hW.trans (hB.mono hW.size), (hB.cell (p := ⟨_, 0, none⟩) (by simp only; omega)).trans cg, (hB.frozen (p := ⟨_, 0, none⟩) (by simp only; omega)).trans fg⟩
  exact two_end h1 (o4.trans hk2) h2 o2 hf p1 p2 (by omega) (by omega)

set_option maxRecDepth 100000 in
set_option maxHeartbeats 4000000 in
theorem implAttr_any (na nb : Bool) (key key' : ByteArray) (da db : GVal) (sa sb : SVal) (r : Bool × Bool) (w : World) (A A' : Option Addr) (len cap len' cap' : Nat)
    (cA : ∀ wx, Keeps w wx → Calls Tryd.prog 25 #[vVal da A len cap, .pointer none] wx (ValPostN na sa wx))
    (cB : ∀ wx, Keeps w wx → Calls Tryd.prog 25 #[vVal db A' len' cap', .pointer none] wx (ValPostN nb sb wx))
    (cE : ∀ (wx : World) (x y x' y' : Value), (∃ P P' : Nat → Prop, (∀ b, P b → ¬ P' b) ∧ RSV P wx sa x y ∧ RSV P' wx sb x' y') → Calls Tryd.prog 28 #[.agg #[.string key, x, y], .agg #[.string key', x', y']] wx (EqEnd r wx)) :
    Calls Tryd.prog 14 #[vAttr key da A len cap, vAttr key' db A' len' cap'] w (PairEnd r w) := by
  have hmf : ∀ (fn : Fn) (first cap : Array Value) (w : World), (Instr.makeFunc fn first cap).run Tryd.prog w = .ok (.func fn first cap) w := fun _ _ _ _ => rfl
  obtain ⟨Q, hQ⟩ : ∃ Q, Q = PairEnd r w := ⟨_, rfl⟩
  rw [← hQ]
  have HQ := Lib.hid hQ
  have CA := Lib.hid cA
  have CB := Lib.hid cB
  have CE := Lib.hid cE
  clear cA cB cE hQ
  unfold vVal at CA CB
  unfold vAttr
  have HX : ABox (((w.alloc (.cells #[.string key, .int .i64 da.kind, .int .u64 da.n, .string da.s, .int .i64 da.t.sec, .int .i64 da.t.nsec, .int .i64 da.t.off, .slice A len cap] 35)).alloc (.cells #[.string key', .int .i64 db.kind, .int .u64 db.n, .string db.s, .int .i64 db.t.sec, .int .i64 db.t.nsec, .int .i64 db.t.off, .slice A' len' cap'] 35)).alloc (.cells #[.bool false] 4)) w.heap.size key da A len cap ∧ ABox (((w.alloc (.cells #[.string key, .int .i64 da.kind, .int .u64 da.n, .string da.s, .int .i64 da.t.sec, .int .i64 da.t.nsec, .int .i64 da.t.off, .slice A len cap] 35)).alloc (.cells #[.string key', .int .i64 db.kind, .int .u64 db.n, .string db.s, .int .i64 db.t.sec, .int .i64 db.t.nsec, .int .i64 db.t.off, .slice A' len' cap'] 35)).alloc (.cells #[.bool false] 4)) (w.heap.size + 1) key' db A' len' cap' := ⟨((abox_new w _ key da A len cap _ rfl).keep (keeps_alloc _ _)).keep (keeps_alloc _ _), (abox_new _ _ key' db A' len' cap' _ (by simp)).keep (keeps_alloc _ _)⟩
  have hW : Below w.heap.size w (((w.alloc (.cells #[.string key, .int .i64 da.kind, .int .u64 da.n, .string da.s, .int .i64 da.t.sec, .int .i64 da.t.nsec, .int .i64 da.t.off, .slice A len cap] 35)).alloc (.cells #[.string key', .int .i64 db.kind, .int .u64 db.n, .string db.s, .int .i64 db.t.sec, .int .i64 db.t.nsec, .int .i64 db.t.off, .slice A' len' cap'] 35)).alloc (.cells #[.bool false] 4)) := (by repeat' (first | with_reducible assumption | with_reducible exact Below.refl _ _ | with_reducible refine Below.setCell ?_ ?_ _ | with_reducible refine Below.alloc ?_ ?_ _ | with_reducible refine Below.drew ?_ | with_reducible refine below_drewN ?_ _ | omega | (simp; done) | (simp; omega)))
  have cg : (((w.alloc (.cells #[.string key, .int .i64 da.kind, .int .u64 da.n, .string da.s, .int .i64 da.t.sec, .int .i64 da.t.nsec, .int .i64 da.t.off, .slice A len cap] 35)).alloc (.cells #[.string key', .int .i64 db.kind, .int .u64 db.n, .string db.s, .int .i64 db.t.sec, .int .i64 db.t.nsec, .int .i64 db.t.off, .slice A' len' cap'] 35)).alloc (.cells #[.bool false] 4)).cell? ⟨w.heap.size + 1 + 1, 0, none⟩ = some (.bool false) := cell_new _ _ _ _ _ _ (by simp) rfl
  have fg : (((w.alloc (.cells #[.string key, .int .i64 da.kind, .int .u64 da.n, .string da.s, .int .i64 da.t.sec, .int .i64 da.t.nsec, .int .i64 da.t.off, .slice A len cap] 35)).alloc (.cells #[.string key', .int .i64 db.kind, .int .u64 db.n, .string db.s, .int .i64 db.t.sec, .int .i64 db.t.nsec, .int .i64 db.t.off, .slice A' len' cap'] 35)).alloc (.cells #[.bool false] 4)).frozen? ⟨w.heap.size + 1 + 1, 0, none⟩ = false := World.frozen?_alloc_at _ _ _ _ (by simp)
  have hs : w.heap.size + 1 + 1 < (((w.alloc (.cells #[.string key, .int .i64 da.kind, .int .u64 da.n, .string da.s, .int .i64 da.t.sec, .int .i64 da.t.nsec, .int .i64 da.t.off, .slice A len cap] 35)).alloc (.cells #[.string key', .int .i64 db.kind, .int .u64 db.n, .string db.s, .int .i64 db.t.sec, .int .i64 db.t.nsec, .int .i64 db.t.off, .slice A' len' cap'] 35)).alloc (.cells #[.bool false] 4)).heap.size := by simp
  go_enter Tryd.func14, Tryd.ntmps14
  go_upto_region 1 with fail
  go_cut [6, 7] (fun v6 v7 wx => TwoAttrs w key key' sa sb v6 v7 wx)
  case first =>
    generalize (((w.alloc (.cells #[.string key, .int .i64 da.kind, .int .u64 da.n, .string da.s, .int .i64 da.t.sec, .int .i64 da.t.nsec, .int .i64 da.t.off, .slice A len cap] 35)).alloc (.cells #[.string key', .int .i64 db.kind, .int .u64 db.n, .string db.s, .int .i64 db.t.sec, .int .i64 db.t.nsec, .int .i64 db.t.off, .slice A' len' cap'] 35)).alloc (.cells #[.bool false] 4)) = W at HX hW hs cg fg ⊢
    have HS := Lib.hid (fun wx (hx : Keeps W wx) => And.intro (HX.1.keep hx) (HX.2.keep hx))
    clear HX
    cases na <;> cases nb
    all_goals
      go_region_held3 (fun wx => wx.cell? ⟨w.heap.size, 0, none⟩ = some (.string key) ∧ wx.cell? ⟨w.heap.size, 1, none⟩ = some (.int .i64 da.kind) ∧ wx.cell? ⟨w.heap.size, 2, none⟩ = some (.int .u64 da.n) ∧ wx.cell? ⟨w.heap.size, 3, none⟩ = some (.string da.s) ∧ wx.cell? ⟨w.heap.size, 4, none⟩ = some (.int .i64 da.t.sec) ∧ wx.cell? ⟨w.heap.size, 5, none⟩ = some (.int .i64 da.t.nsec) ∧ wx.cell? ⟨w.heap.size, 6, none⟩ = some (.int .i64 da.t.off) ∧ wx.cell? ⟨w.heap.size, 7, none⟩ = some (.slice A len cap) ∧ wx.cell? ⟨w.heap.size + 1, 0, none⟩ = some (.string key') ∧ wx.cell? ⟨w.heap.size + 1, 1, none⟩ = some (.int .i64 db.kind) ∧ wx.cell? ⟨w.heap.size + 1, 2, none⟩ = some (.int .u64 db.n) ∧ wx.cell? ⟨w.heap.size + 1, 3, none⟩ = some (.string db.s) ∧ wx.cell? ⟨w.heap.size + 1, 4, none⟩ = some (.int .i64 db.t.sec) ∧ wx.cell? ⟨w.heap.size + 1, 5, none⟩ = some (.int .i64 db.t.nsec) ∧ wx.cell? ⟨w.heap.size + 1, 6, none⟩ = some (.int .i64 db.t.off) ∧ wx.cell? ⟨w.heap.size + 1, 7, none⟩ = some (.slice A' len' cap'))
        (exact cells16 (HS.out _ (keeps_of_below (show Below W.heap.size W _ from (by repeat' (first | with_reducible assumption | with_reducible exact Below.refl _ _ | with_reducible refine Below.setCell ?_ ?_ _ | with_reducible refine Below.alloc ?_ ?_ _ | with_reducible refine Below.drew ?_ | with_reducible refine below_drewN ?_ _ | omega | (simp; done) | (simp; omega)))))))
        (first
          | (go_at_call 25; ((with_reducible refine (CA.out _ ((keeps_of_below hW).trans (keeps_of_below (show Below W.heap.size W _ from (by repeat' (first | with_reducible assumption | with_reducible exact Below.refl _ _ | with_reducible refine Below.setCell ?_ ?_ _ | with_reducible refine Below.alloc ?_ ?_ _ | with_reducible refine Below.drew ?_ | with_reducible refine below_drewN ?_ _ | omega | (simp; done) | (simp; omega))))))).mono ?_); rintro e w1 ⟨i1, y1, rfl, hy1, hr1, hb1⟩; have HR1 := Lib.hid hr1; have hB1 := keeps_below (show Below W.heap.size W _ from (by repeat' (first | with_reducible assumption | with_reducible exact Below.refl _ _ | with_reducible refine Below.setCell ?_ ?_ _ | with_reducible refine Below.alloc ?_ ?_ _ | with_reducible refine Below.drew ?_ | with_reducible refine below_drewN ?_ _ | omega | (simp; done) | (simp; omega)))) hb1; have hs1 : W.heap.size ≤ w1.heap.size := hB1.size; have HK1 := Lib.hid hb1; obtain ⟨hc1, hf1⟩ := bcell hb1; have hz1 := hb1.size; (try simp at hz1); (try have e10 : W.heap.size < w1.heap.size := (by omega)); (try have e11 : W.heap.size + 1 < w1.heap.size := (by omega)); clear hr1 hb1; (first | obtain ⟨t1, u1, rfl⟩ := hy1 | obtain rfl := hy1)))
          | (go_at_call 25; ((with_reducible refine (CB.out _ ((keeps_of_below hW).trans (keeps_of_below (show Below W.heap.size W _ from (by repeat' (first | with_reducible assumption | with_reducible exact Below.refl _ _ | with_reducible refine Below.setCell ?_ ?_ _ | with_reducible refine Below.alloc ?_ ?_ _ | with_reducible refine Below.drew ?_ | with_reducible refine below_drewN ?_ _ | omega | (simp; done) | (simp; omega))))))).mono ?_); rintro e w2 ⟨i2, y2, rfl, hy2, hr2, hb2⟩; have HR2 := Lib.hid hr2; have hB2 := keeps_below (show Below W.heap.size W _ from (by repeat' (first | with_reducible assumption | with_reducible exact Below.refl _ _ | with_reducible refine Below.setCell ?_ ?_ _ | with_reducible refine Below.alloc ?_ ?_ _ | with_reducible refine Below.drew ?_ | with_reducible refine below_drewN ?_ _ | omega | (simp; done) | (simp; omega)))) hb2; have hs2 : W.heap.size ≤ w2.heap.size := hB2.size; have HK2 := Lib.hid hb2; obtain ⟨hc2, hf2⟩ := bcell hb2; have hz2 := hb2.size; (try simp at hz2); (try have e20 : W.heap.size < w2.heap.size := (by omega)); (try have e21 : W.heap.size + 1 < w2.heap.size := (by omega)); (try have e22 : w1.heap.size < w2.heap.size := (by omega)); (try have e23 : w1.heap.size + 1 < w2.heap.size := (by omega)); clear hr2 hb2; (first | obtain ⟨t2, u2, rfl⟩ := hy2 | obtain rfl := hy2))))
    all_goals (go_wp2_with fail; go_meet)
    all_goals (with_reducible refine attrs_end (keeps_of_below HK1.out) (keeps_of_below HK2.out) HR1.out HR2.out hW hB2 cg fg hs ?_ ?_ ?_ ?_ ?_)
    all_goals first
      | (with_reducible refine And.intro (b := _ ∧ _ ∧ Keeps _ _) HK1.out.size ?_; refine ⟨by first | exact Nat.le_refl _ | (simp; done) | (simp; omega), HK2.out.size, by first | exact Keeps.refl _ | exact keeps_alloc _ _ | exact (keeps_alloc _ _).trans (keeps_alloc _ _)⟩)
      | (with_reducible show KeepsOn _ _ _; repeat' (first | with_reducible exact KeepsOn.refl _ _ | with_reducible refine KeepsOn.setCell ?_ ?_ _ | with_reducible refine KeepsOn.alloc ?_ _ | (rintro b ⟨g1, g2⟩; first | exact g1 | exact g2)))
      | (with_reducible show Below _ _ _; exact (by repeat' (first | with_reducible assumption | with_reducible exact Below.refl _ _ | with_reducible refine Below.setCell ?_ ?_ _ | with_reducible refine Below.alloc ?_ ?_ _ | with_reducible refine Below.drew ?_ | with_reducible refine below_drewN ?_ _ | omega | (simp; done) | (simp; omega))))
      | (unfold Places; refine ⟨?_, ?_, ?_, ?_⟩ <;> (simp; omega))
      | (unfold Places; refine ⟨?_, ?_, ?_, ?_⟩ <;> first | (simp; done) | (simp; omega) | omega)
      | (refine ⟨⟨?_, ?_, ?_⟩, ⟨?_, ?_, ?_⟩⟩ <;> (simp [go_sem]; done))
      | (refine ⟨?_, ?_⟩ <;> first
          | ((with_reducible refine sbox_new _ _ _ _ _ _ ?_); (first | (simp; done) | (simp [World.drew]; done)))
          | ((with_reducible refine sbox_alloc ?_); (with_reducible refine sbox_three ?_); ((with_reducible refine sbox_below HK2.out ?_); first | ((with_reducible refine sbox_new _ _ _ _ _ _ ?_); (first | (simp; done) | (simp [World.drew]; done))) | ((with_reducible refine sbox_alloc ?_); ((with_reducible refine sbox_new _ _ _ _ _ _ ?_); (first | (simp; done) | (simp [World.drew]; done)))) | ((with_reducible refine sbox_below HK1.out ?_); first | ((with_reducible refine sbox_new _ _ _ _ _ _ ?_); (first | (simp; done) | (simp [World.drew]; done))) | ((with_reducible refine sbox_alloc ?_); ((with_reducible refine sbox_new _ _ _ _ _ _ ?_); (first | (simp; done) | (simp [World.drew]; done)))) | ((with_reducible refine sbox_drew ?_); first | ((with_reducible refine sbox_new _ _ _ _ _ _ ?_); (first | (simp; done) | (simp [World.drew]; done))) | ((with_reducible refine sbox_alloc ?_); ((with_reducible refine sbox_new _ _ _ _ _ _ ?_); (first | (simp; done) | (simp [World.drew]; done)))))) | ((with_reducible refine sbox_alloc ?_); ((with_reducible refine sbox_below HK1.out ?_); first | ((with_reducible refine sbox_new _ _ _ _ _ _ ?_); (first | (simp; done) | (simp [World.drew]; done))) | ((with_reducible refine sbox_alloc ?_); ((with_reducible refine sbox_new _ _ _ _ _ _ ?_); (first | (simp; done) | (simp [World.drew]; done)))) | ((with_reducible refine sbox_drew ?_); first | ((with_reducible refine sbox_new _ _ _ _ _ _ ?_); (first | (simp; done) | (simp [World.drew]; done))) | ((with_reducible refine sbox_alloc ?_); ((with_reducible refine sbox_new _ _ _ _ _ _ ?_); (first | (simp; done) | (simp [World.drew]; done))))))) | ((with_reducible refine sbox_alloc ?_); ((with_reducible refine sbox_alloc ?_); ((with_reducible refine sbox_below HK1.out ?_); first | ((with_reducible refine sbox_new _ _ _ _ _ _ ?_); (first | (simp; done) | (simp [World.drew]; done))) | ((with_reducible refine sbox_alloc ?_); ((with_reducible refine sbox_new _ _ _ _ _ _ ?_); (first | (simp; done) | (simp [World.drew]; done)))) | ((with_reducible refine sbox_drew ?_); first | ((with_reducible refine sbox_new _ _ _ _ _ _ ?_); (first | (simp; done) | (simp [World.drew]; done))) | ((with_reducible refine sbox_alloc ?_); ((with_reducible refine sbox_new _ _ _ _ _ _ ?_); (first | (simp; done) | (simp [World.drew]; done))))))))))
          | ((with_reducible refine sbox_three ?_); first | ((with_reducible refine sbox_below HK2.out ?_); first | ((with_reducible refine sbox_new _ _ _ _ _ _ ?_); (first | (simp; done) | (simp [World.drew]; done))) | ((with_reducible refine sbox_alloc ?_); ((with_reducible refine sbox_new _ _ _ _ _ _ ?_); (first | (simp; done) | (simp [World.drew]; done)))) | ((with_reducible refine sbox_below HK1.out ?_); first | ((with_reducible refine sbox_new _ _ _ _ _ _ ?_); (first | (simp; done) | (simp [World.drew]; done))) | ((with_reducible refine sbox_alloc ?_); ((with_reducible refine sbox_new _ _ _ _ _ _ ?_); (first | (simp; done) | (simp [World.drew]; done)))) | ((with_reducible refine sbox_drew ?_); first | ((with_reducible refine sbox_new _ _ _ _ _ _ ?_); (first | (simp; done) | (simp [World.drew]; done))) | ((with_reducible refine sbox_alloc ?_); ((with_reducible refine sbox_new _ _ _ _ _ _ ?_); (first | (simp; done) | (simp [World.drew]; done)))))) | ((with_reducible refine sbox_alloc ?_); ((with_reducible refine sbox_below HK1.out ?_); first | ((with_reducible refine sbox_new _ _ _ _ _ _ ?_); (first | (simp; done) | (simp [World.drew]; done))) | ((with_reducible refine sbox_alloc ?_); ((with_reducible refine sbox_new _ _ _ _ _ _ ?_); (first | (simp; done) | (simp [World.drew]; done)))) | ((with_reducible refine sbox_drew ?_); first | ((with_reducible refine sbox_new _ _ _ _ _ _ ?_); (first | (simp; done) | (simp [World.drew]; done))) | ((with_reducible refine sbox_alloc ?_); ((with_reducible refine sbox_new _ _ _ _ _ _ ?_); (first | (simp; done) | (simp [World.drew]; done))))))) | ((with_reducible refine sbox_alloc ?_); ((with_reducible refine sbox_alloc ?_); ((with_reducible refine sbox_below HK1.out ?_); first | ((with_reducible refine sbox_new _ _ _ _ _ _ ?_); (first | (simp; done) | (simp [World.drew]; done))) | ((with_reducible refine sbox_alloc ?_); ((with_reducible refine sbox_new _ _ _ _ _ _ ?_); (first | (simp; done) | (simp [World.drew]; done)))) | ((with_reducible refine sbox_drew ?_); first | ((with_reducible refine sbox_new _ _ _ _ _ _ ?_); (first | (simp; done) | (simp [World.drew]; done))) | ((with_reducible refine sbox_alloc ?_); ((with_reducible refine sbox_new _ _ _ _ _ _ ?_); (first | (simp; done) | (simp [World.drew]; done))))))))) | ((with_reducible refine sbox_set3 (by omega) ?_); ((with_reducible refine sbox_below HK2.out ?_); first | ((with_reducible refine sbox_new _ _ _ _ _ _ ?_); (first | (simp; done) | (simp [World.drew]; done))) | ((with_reducible refine sbox_alloc ?_); ((with_reducible refine sbox_new _ _ _ _ _ _ ?_); (first | (simp; done) | (simp [World.drew]; done)))) | ((with_reducible refine sbox_below HK1.out ?_); first | ((with_reducible refine sbox_new _ _ _ _ _ _ ?_); (first | (simp; done) | (simp [World.drew]; done))) | ((with_reducible refine sbox_alloc ?_); ((with_reducible refine sbox_new _ _ _ _ _ _ ?_); (first | (simp; done) | (simp [World.drew]; done)))) | ((with_reducible refine sbox_drew ?_); first | ((with_reducible refine sbox_new _ _ _ _ _ _ ?_); (first | (simp; done) | (simp [World.drew]; done))) | ((with_reducible refine sbox_alloc ?_); ((with_reducible refine sbox_new _ _ _ _ _ _ ?_); (first | (simp; done) | (simp [World.drew]; done)))))) | ((with_reducible refine sbox_alloc ?_); ((with_reducible refine sbox_below HK1.out ?_); first | ((with_reducible refine sbox_new _ _ _ _ _ _ ?_); (first | (simp; done) | (simp [World.drew]; done))) | ((with_reducible refine sbox_alloc ?_); ((with_reducible refine sbox_new _ _ _ _ _ _ ?_); (first | (simp; done) | (simp [World.drew]; done)))) | ((with_reducible refine sbox_drew ?_); first | ((with_reducible refine sbox_new _ _ _ _ _ _ ?_); (first | (simp; done) | (simp [World.drew]; done))) | ((with_reducible refine sbox_alloc ?_); ((with_reducible refine sbox_new _ _ _ _ _ _ ?_); (first | (simp; done) | (simp [World.drew]; done))))))) | ((with_reducible refine sbox_alloc ?_); ((with_reducible refine sbox_alloc ?_); ((with_reducible refine sbox_below HK1.out ?_); first | ((with_reducible refine sbox_new _ _ _ _ _ _ ?_); (first | (simp; done) | (simp [World.drew]; done))) | ((with_reducible refine sbox_alloc ?_); ((with_reducible refine sbox_new _ _ _ _ _ _ ?_); (first | (simp; done) | (simp [World.drew]; done)))) | ((with_reducible refine sbox_drew ?_); first | ((with_reducible refine sbox_new _ _ _ _ _ _ ?_); (first | (simp; done) | (simp [World.drew]; done))) | ((with_reducible refine sbox_alloc ?_); ((with_reducible refine sbox_new _ _ _ _ _ _ ?_); (first | (simp; done) | (simp [World.drew]; done)))))))))))
          | ((with_reducible refine sbox_set3 (by omega) ?_); (with_reducible refine sbox_three ?_); ((with_reducible refine sbox_below HK2.out ?_); first | ((with_reducible refine sbox_new _ _ _ _ _ _ ?_); (first | (simp; done) | (simp [World.drew]; done))) | ((with_reducible refine sbox_alloc ?_); ((with_reducible refine sbox_new _ _ _ _ _ _ ?_); (first | (simp; done) | (simp [World.drew]; done)))) | ((with_reducible refine sbox_below HK1.out ?_); first | ((with_reducible refine sbox_new _ _ _ _ _ _ ?_); (first | (simp; done) | (simp [World.drew]; done))) | ((with_reducible refine sbox_alloc ?_); ((with_reducible refine sbox_new _ _ _ _ _ _ ?_); (first | (simp; done) | (simp [World.drew]; done)))) | ((with_reducible refine sbox_drew ?_); first | ((with_reducible refine sbox_new _ _ _ _ _ _ ?_); (first | (simp; done) | (simp [World.drew]; done))) | ((with_reducible refine sbox_alloc ?_); ((with_reducible refine sbox_new _ _ _ _ _ _ ?_); (first | (simp; done) | (simp [World.drew]; done)))))) | ((with_reducible refine sbox_alloc ?_); ((with_reducible refine sbox_below HK1.out ?_); first | ((with_reducible refine sbox_new _ _ _ _ _ _ ?_); (first | (simp; done) | (simp [World.drew]; done))) | ((with_reducible refine sbox_alloc ?_); ((with_reducible refine sbox_new _ _ _ _ _ _ ?_); (first | (simp; done) | (simp [World.drew]; done)))) | ((with_reducible refine sbox_drew ?_); first | ((with_reducible refine sbox_new _ _ _ _ _ _ ?_); (first | (simp; done) | (simp [World.drew]; done))) | ((with_reducible refine sbox_alloc ?_); ((with_reducible refine sbox_new _ _ _ _ _ _ ?_); (first | (simp; done) | (simp [World.drew]; done))))))) | ((with_reducible refine sbox_alloc ?_); ((with_reducible refine sbox_alloc ?_); ((with_reducible refine sbox_below HK1.out ?_); first | ((with_reducible refine sbox_new _ _ _ _ _ _ ?_); (first | (simp; done) | (simp [World.drew]; done))) | ((with_reducible refine sbox_alloc ?_); ((with_reducible refine sbox_new _ _ _ _ _ _ ?_); (first | (simp; done) | (simp [World.drew]; done)))) | ((with_reducible refine sbox_drew ?_); first | ((with_reducible refine sbox_new _ _ _ _ _ _ ?_); (first | (simp; done) | (simp [World.drew]; done))) | ((with_reducible refine sbox_alloc ?_); ((with_reducible refine sbox_new _ _ _ _ _ _ ?_); (first | (simp; done) | (simp [World.drew]; done)))))))))))
  case rest =>
    obtain ⟨b1, b2, i1, y1, i2, y2, rfl, rfl, hb1, hb2, s1, s2, hP, hBw, c0, f0⟩ := hcut
    have CQ := Lib.hid (fun wx (hx : Keeps wc wx) => CE.out wx (.int .u64 i1) y1 (.int .u64 i2) y2 (by obtain ⟨P, P', h1, h2, h3⟩ := hP; exact ⟨P, P', h1, h2.keep hx, h3.keep hx⟩))
    have HK := Lib.hid (caughtAttr_any r wc key key' i1 i2 y1 y2 s1 s2 b1 b2 (w.heap.size + 1 + 1) CQ.out hb1 hb2 c0 f0)
    clear hP hb1 hb2 s1 s2 HX hW hs cg fg
    go_wp2_with (go_at_call 23; (refine (HK.out).mono ?_); rintro e w3 ⟨rfl, h1, h2, h3⟩; have hB := But.own (W := w) hBw (by omega) h3; clear h3)
    have c9 := World.cell?_setCell_same w3 ⟨w.heap.size + 1 + 1, 0, none⟩ (.bool (r.1 && !r.2)) h1
    exact bodyPost_ret (v := .tuple #[.bool (r.1 && !r.2), .bool r.2]) (by simp [results, Tryd.results14, go_sem, c9]) rfl (by rw [HQ.out]; exact ⟨rfl, hB.setCell (by simp; omega) _⟩)

end Go.Proofs.YtcgdnjigocknbaaDoor.Va
