/- Events (Event of package impl): plain data, and how they lie in memory. -/
import Derived.Test.YtihhgnbgejjijaaGreatDoorMem
import Derived.Test.YtihhgnbgejjijaaGreatDoorNewRec
namespace Go.Proofs.YtihhgnbgejjijaaGreatDoor.Va
set_option linter.unusedVariables false
set_option linter.unusedSimpArgs false
open Go Go.RowKit

structure GEv where
  what : Int
  level : Int
  yes : Bool
  name : ByteArray
  msg : ByteArray
  attrs : GAttrs
/-- The handler is asked whether it is enabled. -/
def evAsk (least lvl : Int) : GEv := ⟨0, lvl, decide (least ≤ lvl), ByteArray.empty, ByteArray.empty, .nil⟩

/-- A row of events as a list of cells; from a place on; a slice. -/
def REX (P : Nat → Prop) (w : World) : List GEv → List Value → Prop
  | [], xs => xs = []
  | e :: r, xs => ∃ A len cap ys, xs = .int .i64 e.what :: .int .i64 e.level :: .bool e.yes :: .string e.name :: .string e.msg :: .slice A len cap :: ys ∧ RSP P w e.attrs A len ∧ REX P w r ys
def REvs (P : Nat → Prop) (w : World) : List GEv → Nat → Nat → Prop
  | [], _, _ => True
  | e :: r, b, o => w.cell? ⟨b, o, none⟩ = some (.int .i64 e.what) ∧ w.cell? ⟨b, o + 1, none⟩ = some (.int .i64 e.level) ∧ w.cell? ⟨b, o + 2, none⟩ = some (.bool e.yes) ∧ w.cell? ⟨b, o + 3, none⟩ = some (.string e.name) ∧
      w.cell? ⟨b, o + 4, none⟩ = some (.string e.msg) ∧ (∃ A len cap, w.cell? ⟨b, o + 5, none⟩ = some (.slice A len cap) ∧ RSP P w e.attrs A len) ∧ REvs P w r b (o + 6)
def REvS (P : Nat → Prop) (w : World) (l : List GEv) (A : Option Addr) (len : Nat) : Prop := len = l.length ∧ (0 < len → ∃ b o, A = some ⟨b, o, none⟩ ∧ P b ∧ REvs P w l b o)

theorem REX.turn {P Q : Nat → Prop} {w w' : World} (hk : KeepsOn P w w') (hq : ∀ b, P b → b < w.heap.size → Q b) : ∀ (l : List GEv) (xs : List Value), REX P w l xs → REX Q w' l xs
  | [], _, h => h
  | e :: r, xs, h => by
    obtain ⟨A, len, cap, ys, e1, hl, hr⟩ := h
    exact ⟨A, len, cap, ys, e1, hl.turn hk hq, REX.turn hk hq r ys hr⟩
theorem REX.snoc {P : Nat → Prop} {w : World} {e : GEv} {A : Option Addr} {len cap : Nat} (hd : RSP P w e.attrs A len) : ∀ (l : List GEv) (xs : List Value), REX P w l xs →
    REX P w (l ++ [e]) (xs ++ [.int .i64 e.what, .int .i64 e.level, .bool e.yes, .string e.name, .string e.msg, .slice A len cap])
  | [], xs, h => by cases h; exact ⟨A, len, cap, [], rfl, hd, rfl⟩
  | e' :: r, xs, h => by
    obtain ⟨A', len', cap', ys, rfl, hl, hr⟩ := h
    exact ⟨A', len', cap', ys ++ _, rfl, hl, REX.snoc hd r ys hr⟩
theorem REX.len {P : Nat → Prop} {w : World} : ∀ (l : List GEv) (xs : List Value), REX P w l xs → xs.length = l.length * 6
  | [], xs, h => by cases h; rfl
  | e :: r, xs, h => by
    obtain ⟨A', len', cap', ys, rfl, hl, hr⟩ := h
    have := REX.len r ys hr
    simp only [List.length_cons]
    omega
theorem REX.rows {P : Nat → Prop} {w : World} : ∀ (l : List GEv) (xs : List Value) (b o : Nat), REX P w l xs → (∀ j u, xs[j]? = some u → w.cell? ⟨b, o + j, none⟩ = some u) → REvs P w l b o
  | [], _, _, _, _, _ => trivial
  | e :: r, xs, b, o, h, hc => by
    obtain ⟨A, len, cap, ys, rfl, hl, hr⟩ := h
    refine ⟨hc 0 _ rfl, hc 1 _ rfl, hc 2 _ rfl, hc 3 _ rfl, hc 4 _ rfl, ⟨A, len, cap, hc 5 _ rfl, hl⟩, REX.rows r ys b (o + 6) hr fun j u hj => ?_⟩
    have := hc (j + 6) u (by simpa using hj)
    rwa [show o + 6 + j = o + (j + 6) by omega]
theorem REvs.lt {P : Nat → Prop} {w : World} {l : List GEv} {b o : Nat} (hl : 0 < l.length) (h : REvs P w l b o) : b < w.heap.size := by
  cases l with
  | nil => exact absurd hl (by simp)
  | cons a r => exact World.block_lt_of_cell? w ⟨b, o, none⟩ h.1
theorem REvs.turn {P Q : Nat → Prop} {w w' : World} (hk : KeepsOn P w w') (hq : ∀ b, P b → b < w.heap.size → Q b) : ∀ (l : List GEv) (b o : Nat), P b → REvs P w l b o → REvs Q w' l b o
  | [], _, _, _, _ => trivial
  | e :: r, b, o, hp, h => by
    obtain ⟨h0, h1, h2, h3, h4, ⟨A, len, cap, h5, hl⟩, hr⟩ := h
    exact ⟨hk.cell hp h0, hk.cell hp h1, hk.cell hp h2, hk.cell hp h3, hk.cell hp h4, ⟨A, len, cap, hk.cell hp h5, hl.turn hk hq⟩, REvs.turn hk hq r b (o + 6) hp hr⟩
theorem REvS.turn {P Q : Nat → Prop} {w w' : World} {l : List GEv} {A : Option Addr} {len : Nat} (h : REvS P w l A len) (hk : KeepsOn P w w') (hq : ∀ b, P b → b < w.heap.size → Q b) : REvS Q w' l A len :=
  ⟨h.1, fun hp => by
    obtain ⟨b, o, e, hpb, hr⟩ := h.2 hp
    exact ⟨b, o, e, hq b hpb (REvs.lt (by have := h.1; omega) hr), REvs.turn hk hq l b o hpb hr⟩⟩
theorem REvS.keep {P : Nat → Prop} {w w' : World} {l : List GEv} {A : Option Addr} {len : Nat} (h : REvS P w l A len) (hk : Keeps w w') : REvS P w' l A len := h.turn (hk.on P) (fun _ x _ => x)
theorem revs_of_owns {w : World} {base : Nat} {e : TypeId} {P Q : Nat → Prop} {l : List GEv} {xs : List Value} {v : Value} {n : Nat} (hown : w.ownsRow base e 6 v n xs) (hx : REX P w l xs)
    (hP : ∀ b, P b → Q b) (hQ : ∀ b, base ≤ b → Q b) : ∃ A cap, v = .slice A n cap ∧ REvS Q w l A n := by
  have hlen := REX.len l xs hx
  have h1 := hown.1
  have hx' : REX Q w l xs := REX.turn (P := P) (KeepsOn.refl _ _) (fun b h _ => hP b h) l xs hx
  rcases hown.2 with ⟨rfl, rfl⟩ | ⟨g, cap, cur, rfl, hb, hg, hnc, hcm, hcs, htake⟩
  · exact ⟨none, 0, rfl, by omega, fun h => absurd h (by omega)⟩
  · refine ⟨_, cap, rfl, by omega, fun h => ⟨g, 0, rfl, hQ g hb, REX.rows l xs g 0 hx' fun j u hu => ?_⟩⟩
    have h3 := hown.cells (g := g) rfl j u hu
    have hadd : (⟨g, 0, none⟩ : Addr).add j = ⟨g, 0 + j, none⟩ := by unfold Addr.add; split <;> simp_all
    rwa [hadd] at h3

end Go.Proofs.YtihhgnbgejjijaaGreatDoor.Va

/- The variable that holds the events of a keeper, by the events. -/
namespace Go.Proofs.YtihhgnbgejjijaaGreatDoor.Va
set_option linter.unusedVariables false
set_option linter.unusedSimpArgs false
open Go Go.RowKit

/-- Variable c holds, by the row u, the events l. -/
def EvR (c : Nat) (u : Value) (l : List GEv) (w : World) : Prop := ∃ xs, EvU c u l.length xs w ∧ REX (fun b => c < b ∧ some b ≠ u.ownBlock) w l xs
/-- A call that adds events. -/
def EvPost (c : Nat) (u : Value) (l : List GEv) (r : Value) (w : World) (e : Ending) (w' : World) : Prop := e = .returned r ∧ ∃ v, EvR c v l w' ∧ Two c u.ownBlock w w' ∧ NewRow u v w

theorem newRow_q {c : Nat} {u v : Value} {w : World} (hN : NewRow u v w) : ∀ b, (c < b ∧ some b ≠ u.ownBlock) → b < w.heap.size → (c < b ∧ some b ≠ v.ownBlock) := by
  rintro b ⟨h1, h2⟩ h3
  refine ⟨h1, fun e => ?_⟩
  rcases hN with h | ⟨g, h, hg⟩
  · exact h2 (e.trans h)
  · rw [h] at e
    injection e with e
    omega
theorem evr_add {c : Nat} {u v : Value} {l : List GEv} {ev : GEv} {xs : List Value} {A : Option Addr} {len cap : Nat} {w w' : World} (hx : REX (fun b => c < b ∧ some b ≠ u.ownBlock) w l xs) (hT : Two c u.ownBlock w w') (hN : NewRow u v w)
    (hU : EvU c v (l.length + 1) (xs ++ [.int .i64 ev.what, .int .i64 ev.level, .bool ev.yes, .string ev.name, .string ev.msg, .slice A len cap]) w') (hR : RSP (fun b => c < b ∧ some b ≠ v.ownBlock) w' ev.attrs A len) : EvR c v (l ++ [ev]) w' :=
  ⟨_, by rw [List.length_append]; exact hU, REX.snoc hR l xs (REX.turn (hT.keepsOn (fun b hb => by omega) (fun b hb => hb.2)) (newRow_q hN) l xs hx)⟩
theorem EvR.below {c : Nat} {u : Value} {l : List GEv} {w w' : World} (h : EvR c u l w) (hb : Below w.heap.size w w') : EvR c u l w' := by
  obtain ⟨xs, h1, h2⟩ := h
  have hl : c < w.heap.size := World.block_lt_of_cell? w _ h1.1
  exact ⟨xs, ⟨(keeps_of_below hb).cell h1.1, (hb.frozen (p := ⟨c, 0, none⟩) hl).trans h1.2.1, own_below h1.2.2 hb⟩, REX.turn ((keeps_of_below hb).on _) (fun _ h _ => h) l xs h2⟩
theorem EvR.lt {c : Nat} {u : Value} {l : List GEv} {w : World} (h : EvR c u l w) : c < w.heap.size := by
  obtain ⟨xs, h1, _⟩ := h
  exact World.block_lt_of_cell? w _ h1.1
theorem EvR.own {c : Nat} {u : Value} {l : List GEv} {w : World} (h : EvR c u l w) : ∀ g, u.ownBlock = some g → c < g ∧ g < w.heap.size := by
  obtain ⟨xs, h1, _⟩ := h
  exact fun g hg => ⟨(h1.2.2.lt g hg).1, (h1.2.2.lt g hg).2⟩
/-- What comes behind it. -/
theorem EvPost.then {c : Nat} {u v : Value} {l : List GEv} {r : Value} {w w1 w2 : World} {e : Ending} (hT : Two c u.ownBlock w w1) (hN : NewRow u v w) (h : EvPost c v l r w1 e w2) : EvPost c u l r w e w2 := by
  obtain ⟨rfl, x, h1, h2, h3⟩ := h
  exact ⟨rfl, x, h1, hT.trans h2 hN, hN.trans h3 hT.size⟩
theorem newRow_refl (u : Value) (w : World) : NewRow u u w := .inl rfl

end Go.Proofs.YtihhgnbgejjijaaGreatDoor.Va
