/- How the values of package slog lie in memory. -/
import Derived.Test.YtihhgnbgejjijaaGreatDoorMem
namespace Go.Proofs.YtihhgnbgejjijaaGreatDoor.Va
set_option linter.unusedVariables false
set_option linter.unusedSimpArgs false
open Go Go.RowKit

/-- The name of a time's zone. -/
def zone (t : GTime) : ByteArray := if t.off = 0 then ⟨#[85, 84, 67]⟩ else ByteArray.empty

/-- A Go value of any type. -/
def RAny (P : Nat → Prop) (w : World) : GAny → Value → Prop
  | .nil, v => v = .nilIface
  | .err s, v => v = .iface 217 (.agg #[.string s])
  | .stringer s, v => v = .iface 218 (.agg #[.string s])
  | .bytes s, v => ∃ (A : Option Addr) (len cap : Nat), v = .iface 219 (.slice A len cap) ∧ len = s.size ∧ (0 < len → ∃ b o, A = some ⟨b, o, none⟩ ∧ P b ∧ ∀ j, j < s.size → w.cell? ⟨b, o + j, none⟩ = some (.int .u8 (s.data.toList.getD j 0).toNat))
  | .text s, v => v = .iface 220 (.agg #[.string s])
  | .fails s, v => v = .iface 221 (.agg #[.string s])
  | .number n, v => v = .iface 222 (.int .i64 n)
  | .level n, v => v = .iface 97 (.int .i64 n)
  | .kind n, v => v = .iface 239 (.int .i64 n)
  | .appender s t, v => v = .iface 224 (.agg #[.string s, .string t])
  | .lacks s, v => v = .iface 225 (.agg #[.string s])
  | .panics s, v => v = .iface 226 (.agg #[.string s])
  | .pointer, v => v = .iface 227 (.pointer none)
  | .source f s n, v => ∃ b, v = .iface 106 (.pointer (some ⟨b, 0, none⟩)) ∧ (P b ∧ w.heap[b]? = some (.cells #[.string f, .string s, .int .i64 n] 167 (0, 0))) ∧ w.cell? ⟨b, 0, none⟩ = some (.string f) ∧ w.cell? ⟨b, 1, none⟩ = some (.string s) ∧ w.cell? ⟨b, 2, none⟩ = some (.int .i64 n)
  | .nosource, v => v = .iface 106 (.pointer none)
  | .both s t, v => v = .iface 229 (.agg #[.string s, .string t])
  | .made _, _ => False

/- A Value, by its two cells; a row of Attrs from a place on. -/
mutual
def RSV (P : Nat → Prop) (w : World) : SVal → Value → Value → Prop
  | .num k n, x, y => x = .int .u64 n ∧ y = .iface 198 (.int .i64 k) ∧ (k = 1 ∨ k = 2 ∨ k = 3 ∨ k = 4 ∨ k = 7) ∧ 0 ≤ n ∧ n ≤ 18446744073709551615
  | .str s, x, y => x = .int .u64 s.size ∧ y = .iface 230 (.string s)
  | .time t, x, y => x = .int .u64 0 ∧ y = .iface 243 (.agg #[.int .i64 t.sec, .int .i64 t.nsec, .int .i64 t.off, .string (zone t)])
  | .group l, x, y => ∃ (A : Option Addr) (len cap : Nat), x = .int .u64 len ∧ y = .iface 245 (.slice A len cap) ∧ len = l.len ∧ (0 < len → ∃ b o, A = some ⟨b, o, none⟩ ∧ P b ∧ RSAs P w l b o)
  | .any g, x, y => x = .int .u64 0 ∧ RAny P w g y
  | .valuer n v c, x, y => ∃ vx vy, x = .int .u64 0 ∧ y = .iface 196 (.agg #[.int .u64 n, vx, vy, .pointer c]) ∧ RSV P w v vx vy
  | .throws s c, x, y => x = .int .u64 0 ∧ y = .iface 194 (.agg #[.string s, .pointer c])
def RSAs (P : Nat → Prop) (w : World) : SAttrs → Nat → Nat → Prop
  | .nil, _, _ => True
  | .cons key v r, b, o => w.cell? ⟨b, o, none⟩ = some (.string key) ∧ (∃ vx vy, w.cell? ⟨b, o + 1, none⟩ = some vx ∧ w.cell? ⟨b, o + 2, none⟩ = some vy ∧ RSV P w v vx vy) ∧ RSAs P w r b (o + 3)
end
/-- A slice of Attrs. -/
def RSS (P : Nat → Prop) (w : World) (l : SAttrs) (A : Option Addr) (len : Nat) : Prop := len = l.len ∧ (0 < len → ∃ b o, A = some ⟨b, o, none⟩ ∧ P b ∧ RSAs P w l b o)

theorem slen_pos {l : SAttrs} (h : 0 < l.len) : ∃ k v r, l = .cons k v r := by
  cases l with | nil => simp [SAttrs.len] at h | cons k v r => exact ⟨k, v, r, rfl⟩
theorem RSAs.lt {P : Nat → Prop} {w : World} {l : SAttrs} {b o : Nat} (hl : 0 < l.len) (h : RSAs P w l b o) : b < w.heap.size := by
  obtain ⟨k, v, r, rfl⟩ := slen_pos hl
  unfold RSAs at h
  exact World.block_lt_of_cell? w ⟨b, o, none⟩ h.1

theorem RAny.turn {P Q : Nat → Prop} {w w' : World} (hk : KeepsOn P w w') (hq : ∀ b, P b → b < w.heap.size → Q b) : ∀ (g : GAny) (v : Value), RAny P w g v → RAny Q w' g v
  | .bytes s, v, h => by
    obtain ⟨A, len, cap, e, hl, hr⟩ := h
    refine ⟨A, len, cap, e, hl, fun hp => ?_⟩
    obtain ⟨b, o, ea, hpb, hc⟩ := hr hp
    have h0 := hc 0 (by omega)
    exact ⟨b, o, ea, hq b hpb (World.block_lt_of_cell? w _ h0), fun j hj => hk.cell hpb (hc j hj)⟩
  | .source f s n, v, h => by
    obtain ⟨b, e, hpb, h0, h1, h2⟩ := h
    have hlt := World.block_lt_of_cell? w ⟨b, 0, none⟩ h0
    exact ⟨b, e, ⟨hq b hpb.1 hlt, (hk b hpb.1 hlt).trans hpb.2⟩, hk.cell hpb.1 h0, hk.cell hpb.1 h1, hk.cell hpb.1 h2⟩
  | .nil, _, h => h
  | .err _, _, h => h
  | .stringer _, _, h => h
  | .text _, _, h => h
  | .fails _, _, h => h
  | .number _, _, h => h
  | .level _, _, h => h
  | .kind _, _, h => h
  | .appender _ _, _, h => h
  | .lacks _, _, h => h
  | .panics _, _, h => h
  | .pointer, _, h => h
  | .nosource, _, h => h
  | .both _ _, _, h => h
  | .made _, _, h => h.elim

mutual
theorem RSV.turn {P Q : Nat → Prop} {w w' : World} (hk : KeepsOn P w w') (hq : ∀ b, P b → b < w.heap.size → Q b) : ∀ (d : SVal) (x y : Value), RSV P w d x y → RSV Q w' d x y
  | .num _ _, _, _, h => by unfold RSV at h ⊢; exact h
  | .str _, _, _, h => by unfold RSV at h ⊢; exact h
  | .time _, _, _, h => by unfold RSV at h ⊢; exact h
  | .throws _ _, _, _, h => by unfold RSV at h ⊢; exact h
  | .any g, _, y, h => by unfold RSV at h ⊢; exact ⟨h.1, h.2.turn hk hq⟩
  | .valuer n v c, _, _, h => by
    unfold RSV at h ⊢
    obtain ⟨vx, vy, e1, e2, hv⟩ := h
    exact ⟨vx, vy, e1, e2, RSV.turn hk hq v vx vy hv⟩
  | .group l, _, _, h => by
    unfold RSV at h ⊢
    obtain ⟨A, len, cap, e1, e2, hl, hr⟩ := h
    exact ⟨A, len, cap, e1, e2, hl, fun hp => by
      obtain ⟨b, o, ea, hpb, hc⟩ := hr hp
      exact ⟨b, o, ea, hq b hpb (RSAs.lt (by omega) hc), RSAs.turn hk hq l b o hpb hc⟩⟩
theorem RSAs.turn {P Q : Nat → Prop} {w w' : World} (hk : KeepsOn P w w') (hq : ∀ b, P b → b < w.heap.size → Q b) : ∀ (l : SAttrs) (b o : Nat), P b → RSAs P w l b o → RSAs Q w' l b o
  | .nil, _, _, _, _ => by unfold RSAs; trivial
  | .cons key v r, b, o, hp, h => by
    unfold RSAs at h ⊢
    obtain ⟨h0, ⟨vx, vy, h1, h2, hv⟩, hr⟩ := h
    exact ⟨hk.cell hp h0, ⟨vx, vy, hk.cell hp h1, hk.cell hp h2, RSV.turn hk hq v vx vy hv⟩, RSAs.turn hk hq r b (o + 3) hp hr⟩
end
theorem RSS.turn {P Q : Nat → Prop} {w w' : World} {l : SAttrs} {A : Option Addr} {len : Nat} (h : RSS P w l A len) (hk : KeepsOn P w w') (hq : ∀ b, P b → b < w.heap.size → Q b) : RSS Q w' l A len :=
  ⟨h.1, fun hp => by
    obtain ⟨b, o, e, hpb, hr⟩ := h.2 hp
    exact ⟨b, o, e, hq b hpb (RSAs.lt (by have := h.1; omega) hr), RSAs.turn hk hq l b o hpb hr⟩⟩
theorem RSV.keep {P : Nat → Prop} {w w' : World} {d : SVal} {x y : Value} (h : RSV P w d x y) (hk : Keeps w w') : RSV P w' d x y := h.turn (hk.on P) (fun _ x _ => x)
theorem RSS.keep {P : Nat → Prop} {w w' : World} {l : SAttrs} {A : Option Addr} {len : Nat} (h : RSS P w l A len) (hk : Keeps w w') : RSS P w' l A len := h.turn (hk.on P) (fun _ x _ => x)
theorem RSS.nil_ (P : Nat → Prop) (w : World) (A : Option Addr) : RSS P w .nil A 0 := ⟨rfl, fun h => absurd h (by omega)⟩

/- A row of attributes as a list of cells. -/
def RSX (P : Nat → Prop) (w : World) : SAttrs → List Value → Prop
  | .nil, xs => xs = []
  | .cons key v r, xs => ∃ vx vy ys, xs = .string key :: vx :: vy :: ys ∧ RSV P w v vx vy ∧ RSX P w r ys

def SAttrs.snoc : SAttrs → ByteArray → SVal → SAttrs
  | .nil, k, v => .cons k v .nil
  | .cons k' v' r, k, v => .cons k' v' (SAttrs.snoc r k v)
def SAttrs.append : SAttrs → SAttrs → SAttrs
  | .nil, m => m
  | .cons k v r, m => .cons k v (SAttrs.append r m)
theorem sappend_nil : ∀ l : SAttrs, SAttrs.append l .nil = l
  | .nil => rfl
  | .cons k v r => by show SAttrs.cons k v (SAttrs.append r .nil) = _; rw [sappend_nil r]
theorem ssnoc_append (k : ByteArray) (v : SVal) (m : SAttrs) : ∀ l : SAttrs, SAttrs.append (SAttrs.snoc l k v) m = SAttrs.append l (.cons k v m)
  | .nil => rfl
  | .cons k' v' r => by show SAttrs.cons k' v' (SAttrs.append (SAttrs.snoc r k v) m) = SAttrs.cons k' v' _; rw [ssnoc_append k v m r]
theorem slen_snoc (k : ByteArray) (v : SVal) : ∀ l : SAttrs, (SAttrs.snoc l k v).len = l.len + 1
  | .nil => rfl
  | .cons k' v' r => by show (SAttrs.snoc r k v).len + 1 = _; rw [slen_snoc k v r]; rfl

theorem RSX.turn {P Q : Nat → Prop} {w w' : World} (hk : KeepsOn P w w') (hq : ∀ b, P b → b < w.heap.size → Q b) : ∀ (l : SAttrs) (xs : List Value), RSX P w l xs → RSX Q w' l xs
  | .nil, xs, h => h
  | .cons key v r, xs, h => by
    obtain ⟨vx, vy, ys, e, hv, hr⟩ := h
    exact ⟨vx, vy, ys, e, hv.turn hk hq, RSX.turn hk hq r ys hr⟩
theorem RSX.snoc {P : Nat → Prop} {w : World} {key : ByteArray} {d : SVal} {vx vy : Value} (hd : RSV P w d vx vy) : ∀ (l : SAttrs) (xs : List Value), RSX P w l xs → RSX P w (SAttrs.snoc l key d) (xs ++ [.string key, vx, vy])
  | .nil, xs, h => by cases h; exact ⟨vx, vy, [], rfl, hd, rfl⟩
  | .cons key' v r, xs, h => by
    obtain ⟨x', y', ys, rfl, hv, hr⟩ := h
    exact ⟨x', y', ys ++ _, rfl, hv, RSX.snoc hd r ys hr⟩
theorem RSX.len {P : Nat → Prop} {w : World} : ∀ (l : SAttrs) (xs : List Value), RSX P w l xs → xs.length = l.len * 3
  | .nil, xs, h => by cases h; rfl
  | .cons key v r, xs, h => by
    obtain ⟨x', y', ys, rfl, hv, hr⟩ := h
    have := RSX.len r ys hr
    simp only [List.length_cons, SAttrs.len]
    omega
theorem RSX.ras {P : Nat → Prop} {w : World} : ∀ (l : SAttrs) (xs : List Value) (b o : Nat), RSX P w l xs → (∀ j u, xs[j]? = some u → w.cell? ⟨b, o + j, none⟩ = some u) → RSAs P w l b o
  | .nil, xs, b, o, _, _ => by unfold RSAs; trivial
  | .cons key v r, xs, b, o, h, hc => by
    obtain ⟨vx, vy, ys, rfl, hv, hr⟩ := h
    unfold RSAs
    refine ⟨hc 0 _ rfl, ⟨vx, vy, hc 1 _ rfl, hc 2 _ rfl, hv⟩, RSX.ras r ys b (o + 3) hr fun j u hj => ?_⟩
    have := hc (j + 3) u (by simpa using hj)
    rwa [show o + 3 + j = o + (j + 3) by omega]
theorem rss_of_owns {w : World} {base : Nat} {e : TypeId} {P Q : Nat → Prop} {l : SAttrs} {xs : List Value} {v : Value} {n : Nat} (hown : w.ownsRow base e 3 v n xs) (hx : RSX P w l xs)
    (hP : ∀ b, P b → Q b) (hQ : ∀ b, base ≤ b → Q b) : ∃ A cap, v = .slice A n cap ∧ RSS Q w l A n := by
  have hlen := RSX.len l xs hx
  have h1 := hown.1
  have hx' : RSX Q w l xs := RSX.turn (P := P) (KeepsOn.refl _ _) (fun b h _ => hP b h) l xs hx
  rcases hown.2 with ⟨rfl, rfl⟩ | ⟨g, cap, cur, rfl, hb, hg, hnc, hcm, hcs, htake⟩
  · exact ⟨none, 0, rfl, by omega, fun h => absurd h (by omega)⟩
  · refine ⟨_, cap, rfl, by omega, fun h => ⟨g, 0, rfl, hQ g hb, RSX.ras l xs g 0 hx' fun j u hu => ?_⟩⟩
    have h3 := hown.cells (g := g) rfl j u hu
    have hadd : (⟨g, 0, none⟩ : Addr).add j = ⟨g, 0 + j, none⟩ := by unfold Addr.add; split <;> simp_all
    rwa [hadd] at h3
/-- What an attribute more makes of the call's own row. -/
theorem rsx_snoc {w2 w3 wn : World} {base lo : Nat} {u v : Value} {acc : SAttrs} {xs : List Value} {key : ByteArray} {d : SVal} {vx vy : Value} (hx : RSX (Beside base u) w2 acc xs)
    (hd : RSV (fun b => lo ≤ b) w2 d vx vy) (hlo : ∀ g, u.ownBlock = some g → g < lo) (hbase : base ≤ lo) (hk : ∀ P, KeepsOn P w2 wn) (hs : w2.heap.size ≤ wn.heap.size)
    (hg : wn.grownBy w3 u.ownBlock) (hat : v.ownBlock = u.ownBlock ∨ v.ownBlock = some wn.heap.size) : RSX (Beside base v) w3 (SAttrs.snoc acc key d) (xs ++ [.string key, vx, vy]) := by
  have hQ : ∀ b, Beside base u b → b < w2.heap.size → Beside base v b := by
    rintro b ⟨h1, h2⟩ h3
    rcases hat with e | e
    · exact ⟨h1, by rw [e]; exact h2⟩
    · refine ⟨h1, ?_⟩
      rw [e]
      intro h
      cases h
      omega
  have hK : KeepsOn (Beside base u) w2 w3 := (hk _).trans (keepsOn_of_grown hg (fun b hb => hb.2))
  have hd' : RSV (Beside base u) w2 d vx vy := hd.turn (KeepsOn.refl _ _) (fun b hb _ => ⟨Nat.le_trans hbase hb, fun e => by have := hlo b e.symm; omega⟩)
  exact RSX.snoc (hd'.turn hK hQ) acc xs (RSX.turn hK hQ acc xs hx)

end Go.Proofs.YtihhgnbgejjijaaGreatDoor.Va
