/- Arguments of package slog ([]any): how they lie in memory. -/
import Derived.Test.YtihhgnbgejjijaaGreatDoorRcArgs
import Derived.Test.YtihhgnbgejjijaaGreatDoorAgainB
import Derived.Test.YtihhgnbgejjijaaGreatDoorOfD
import Derived.Deep.AppendLies
namespace Go.Proofs.YtihhgnbgejjijaaGreatDoor.Va
set_option linter.unusedVariables false
set_option linter.unusedSimpArgs false
open Go Go.RowKit

theorem RRaw.turn {P Q : Nat → Prop} {w w' : World} (hk : KeepsOn P w w') (hq : ∀ b, P b → b < w.heap.size → Q b) (g : GAny) (v : Value) (h : RRaw P w g v) : RRaw Q w' g v := by
  cases g with
  | bytes s => exact RAny.turn hk hq (.bytes s) v h
  | source f s n => exact RAny.turn hk hq (.source f s n) v h
  | _ => exact h
theorem Raw.turn {P Q : Nat → Prop} {w w' : World} (hk : KeepsOn P w w') (hq : ∀ b, P b → b < w.heap.size → Q b) (d : SVal) (z : Value) (h : Raw P w d z) : Raw Q w' d z := by
  cases d with
  | num k n => exact h
  | str s => exact h
  | time t => exact h
  | group l =>
    obtain ⟨A, len, cap, e, hl⟩ := h
    exact ⟨A, len, cap, e, hl.turn hk hq⟩
  | any g => exact RRaw.turn hk hq g z h
  | valuer n v c =>
    obtain ⟨vx, vy, e, hv⟩ := h
    exact ⟨vx, vy, e, hv.turn hk hq⟩
  | throws s c => exact h
theorem Raw.shape {P : Nat → Prop} {w : World} {d : SVal} {z : Value} (h : Raw P w d z) : z = .nilIface ∨ ∃ t u, z = .iface t u := by
  cases d with
  | num k n =>
    rcases h.2 with ⟨_, e⟩ | ⟨_, e⟩ | ⟨_, e⟩ | ⟨_, e⟩ | ⟨_, e⟩ <;> exact .inr ⟨_, _, e⟩
  | str s => exact .inr ⟨_, _, h⟩
  | time t => exact .inr ⟨_, _, h⟩
  | group l => obtain ⟨A, len, cap, e, hl⟩ := h; exact .inr ⟨_, _, e⟩
  | any g =>
    cases g with
    | nil => exact .inl h
    | bytes s => obtain ⟨A, len, cap, e, _⟩ := h; exact .inr ⟨_, _, e⟩
    | source f s n => obtain ⟨b, e, _⟩ := h; exact .inr ⟨_, _, e⟩
    | made g => exact (h : False).elim
    | _ => exact .inr ⟨_, _, h⟩
  | valuer n v c => obtain ⟨vx, vy, e, hv⟩ := h; exact .inr ⟨_, _, e⟩
  | throws s c => exact .inr ⟨_, _, h⟩

/-- An argument of package slog. -/
def RArg (P : Nat → Prop) (w : World) (a : GArg) (z : Value) : Prop :=
  (a.what = 0 ∧ ∃ x y, z = .iface 111 (.agg #[.string a.key, x, y]) ∧ RSV P w (valueOf none a.val) x y) ∨ (a.what = 1 ∧ Raw P w (valueOf none a.val) z) ∨
  (a.what = 2 ∧ ∃ x y, z = .iface 109 (.agg #[x, y]) ∧ RSV P w (valueOf none a.val) x y)
theorem RArg.turn {P Q : Nat → Prop} {w w' : World} (hk : KeepsOn P w w') (hq : ∀ b, P b → b < w.heap.size → Q b) {a : GArg} {z : Value} (h : RArg P w a z) : RArg Q w' a z := by
  rcases h with ⟨h0, x, y, e, h⟩ | ⟨h0, h⟩ | ⟨h0, x, y, e, h⟩
  · exact .inl ⟨h0, x, y, e, h.turn hk hq⟩
  · exact .inr (.inl ⟨h0, Raw.turn hk hq _ _ h⟩)
  · exact .inr (.inr ⟨h0, x, y, e, h.turn hk hq⟩)
theorem RArg.shape {P : Nat → Prop} {w : World} {a : GArg} {z : Value} (h : RArg P w a z) : z = .nilIface ∨ ∃ t u, z = .iface t u := by
  rcases h with ⟨h0, x, y, e, h⟩ | ⟨h0, h⟩ | ⟨h0, x, y, e, h⟩
  · exact .inr ⟨_, _, e⟩
  · exact h.shape
  · exact .inr ⟨_, _, e⟩
theorem RArg.one {P : Nat → Prop} {w : World} {a : GArg} {z : Value} (h : RArg P w a z) : ∀ u ∈ [z], u.oneCell' = true := by
  intro u hu
  simp at hu
  subst hu
  rcases h.shape with rfl | ⟨t, u, rfl⟩ <;> rfl

/-- A row of them, as a list of cells; from a place on; a slice. -/
def RAX (P : Nat → Prop) (w : World) : List GArg → List Value → Prop
  | [], xs => xs = []
  | a :: r, xs => ∃ z ys, xs = z :: ys ∧ RArg P w a z ∧ RAX P w r ys
def RAnys (P : Nat → Prop) (w : World) : List GArg → Nat → Nat → Prop
  | [], _, _ => True
  | a :: r, b, o => (∃ z, w.cell? ⟨b, o, none⟩ = some z ∧ RArg P w a z) ∧ RAnys P w r b (o + 1)
def RAnyS (P : Nat → Prop) (w : World) (l : List GArg) (A : Option Addr) (len : Nat) : Prop := len = l.length ∧ (0 < len → ∃ b o, A = some ⟨b, o, none⟩ ∧ P b ∧ RAnys P w l b o)

theorem RAX.turn {P Q : Nat → Prop} {w w' : World} (hk : KeepsOn P w w') (hq : ∀ b, P b → b < w.heap.size → Q b) : ∀ (l : List GArg) (xs : List Value), RAX P w l xs → RAX Q w' l xs
  | [], _, h => h
  | a :: r, xs, h => by
    obtain ⟨z, ys, e, hz, hr⟩ := h
    exact ⟨z, ys, e, hz.turn hk hq, RAX.turn hk hq r ys hr⟩
theorem RAX.snoc {P : Nat → Prop} {w : World} {a : GArg} {z : Value} (hz : RArg P w a z) : ∀ (l : List GArg) (xs : List Value), RAX P w l xs → RAX P w (l ++ [a]) (xs ++ [z])
  | [], xs, h => by cases h; exact ⟨z, [], rfl, hz, rfl⟩
  | a' :: r, xs, h => by
    obtain ⟨z', ys, rfl, h', hr⟩ := h
    exact ⟨z', ys ++ _, rfl, h', RAX.snoc hz r ys hr⟩
theorem RAX.len {P : Nat → Prop} {w : World} : ∀ (l : List GArg) (xs : List Value), RAX P w l xs → xs.length = l.length
  | [], xs, h => by cases h; rfl
  | a :: r, xs, h => by
    obtain ⟨z, ys, rfl, _, hr⟩ := h
    simp only [List.length_cons, RAX.len r ys hr]
theorem RAX.rows {P : Nat → Prop} {w : World} : ∀ (l : List GArg) (xs : List Value) (b o : Nat), RAX P w l xs → (∀ j u, xs[j]? = some u → w.cell? ⟨b, o + j, none⟩ = some u) → RAnys P w l b o
  | [], _, _, _, _, _ => trivial
  | a :: r, xs, b, o, h, hc => by
    obtain ⟨z, ys, rfl, hz, hr⟩ := h
    refine ⟨⟨z, hc 0 _ rfl, hz⟩, RAX.rows r ys b (o + 1) hr fun j u hj => ?_⟩
    have := hc (j + 1) u (by simpa using hj)
    rwa [show o + 1 + j = o + (j + 1) by omega]
theorem RAnys.lt {P : Nat → Prop} {w : World} {l : List GArg} {b o : Nat} (hl : 0 < l.length) (h : RAnys P w l b o) : b < w.heap.size := by
  cases l with
  | nil => exact absurd hl (by simp)
  | cons a r => obtain ⟨⟨z, h0, _⟩, _⟩ := h; exact World.block_lt_of_cell? w ⟨b, o, none⟩ h0
theorem RAnys.turn {P Q : Nat → Prop} {w w' : World} (hk : KeepsOn P w w') (hq : ∀ b, P b → b < w.heap.size → Q b) : ∀ (l : List GArg) (b o : Nat), P b → RAnys P w l b o → RAnys Q w' l b o
  | [], _, _, _, _ => trivial
  | a :: r, b, o, hp, h => by
    obtain ⟨⟨z, h0, hz⟩, hr⟩ := h
    exact ⟨⟨z, hk.cell hp h0, hz.turn hk hq⟩, RAnys.turn hk hq r b (o + 1) hp hr⟩
theorem RAnyS.turn {P Q : Nat → Prop} {w w' : World} {l : List GArg} {A : Option Addr} {len : Nat} (h : RAnyS P w l A len) (hk : KeepsOn P w w') (hq : ∀ b, P b → b < w.heap.size → Q b) : RAnyS Q w' l A len :=
  ⟨h.1, fun hp => by
    obtain ⟨b, o, e, hpb, hr⟩ := h.2 hp
    exact ⟨b, o, e, hq b hpb (RAnys.lt (by have := h.1; omega) hr), RAnys.turn hk hq l b o hpb hr⟩⟩
theorem rany_of_owns {w : World} {base : Nat} {e : TypeId} {P Q : Nat → Prop} {l : List GArg} {xs : List Value} {v : Value} {n : Nat} (hown : w.ownsRow base e 1 v n xs) (hx : RAX P w l xs)
    (hP : ∀ b, P b → Q b) (hQ : ∀ b, base ≤ b → Q b) : ∃ A cap, v = .slice A n cap ∧ n ≤ cap ∧ RAnyS Q w l A n := by
  have hlen := RAX.len l xs hx
  have h1 := hown.1
  have hx' : RAX Q w l xs := RAX.turn (P := P) (KeepsOn.refl _ _) (fun b h _ => hP b h) l xs hx
  rcases hown.2 with ⟨rfl, rfl⟩ | ⟨g, cap, cur, rfl, hb, hg, hnc, hcm, hcs, htake⟩
  · exact ⟨none, 0, rfl, Nat.le_refl _, by omega, fun h => absurd h (by omega)⟩
  · refine ⟨_, cap, rfl, hnc, by omega, fun h => ⟨g, 0, rfl, hQ g hb, RAX.rows l xs g 0 hx' fun j u hu => ?_⟩⟩
    have h3 := hown.cells (g := g) rfl j u hu
    have hadd : (⟨g, 0, none⟩ : Addr).add j = ⟨g, 0 + j, none⟩ := by unfold Addr.add; split <;> simp_all
    rwa [hadd] at h3
/-- What an argument more makes of the call's own row. -/
theorem rax_snoc {w2 w3 wn : World} {base lo : Nat} {u v : Value} {acc : List GArg} {xs : List Value} {a : GArg} {z : Value} (hx : RAX (Beside base u) w2 acc xs)
    (hd : RArg (fun b => lo ≤ b) w2 a z) (hlo : ∀ g, u.ownBlock = some g → g < lo) (hbase : base ≤ lo) (hk : ∀ P, KeepsOn P w2 wn) (hs : w2.heap.size ≤ wn.heap.size)
    (hg : wn.grownBy w3 u.ownBlock) (hat : v.ownBlock = u.ownBlock ∨ v.ownBlock = some wn.heap.size) : RAX (Beside base v) w3 (acc ++ [a]) (xs ++ [z]) := by
  have hQ : ∀ b, Beside base u b → b < w2.heap.size → Beside base v b := by
    rintro b ⟨h1, h2⟩ h3
    rcases hat with e | e
    · exact ⟨h1, by rw [e]; exact h2⟩
    · refine ⟨h1, ?_⟩
      rw [e]
      intro h
      cases h
      omega
  have hK : KeepsOn (Beside base u) w2 w3 := (hk _).trans (keepsOn_of_grown hg (fun b hb => hb.2))
  have hd' : RArg (Beside base u) w2 a z := hd.turn (KeepsOn.refl _ _) (fun b hb _ => ⟨Nat.le_trans hbase hb, fun e => by have := hlo b e.symm; omega⟩)
  exact RAX.snoc (hd'.turn hK hQ) acc xs (RAX.turn hK hQ acc xs hx)

/-- The arguments that the statements speak of, but for the order of strings and attributes. -/
def argsOk : List GArg → Prop
  | [] => True
  | a :: r => (0 ≤ a.what ∧ a.what ≤ 2) ∧ a.val.size ≤ 65536 ∧ argsOk r
def ArgsPost (l : List GArg) (w : World) (e : Ending) (w' : World) : Prop := ∃ A len cap, e = .returned (.slice A len cap) ∧ len ≤ cap ∧ RAnyS (New w) w' l A len ∧ Below w.heap.size w w'
theorem infoAnyT : (Tryz.prog.info? 20).map (fun i => (i.zero, i.size, i.bytes)) = some (some (.nilIface), 1, 16) := by kernel_rfl

end Go.Proofs.YtihhgnbgejjijaaGreatDoor.Va

/- impl.argsOf: the walk. -/
namespace Go.Proofs.YtihhgnbgejjijaaGreatDoor.Va
set_option linter.unusedVariables false
set_option linter.unusedSimpArgs false
open Go Go.RowKit

/-- One round. -/
def ArgRnd (w : World) (l : List GArg) (b o : Nat) (s3 s9 : Value) (wr : World) : Prop :=
  ∃ (k : Nat) (rest acc : List GArg) (n : Nat) (xs : List Value), k + rest.length = l.length ∧ s9 = .int .i64 k ∧ wr.ownsRow w.heap.size 20 1 s3 n xs ∧ RAX (Beside w.heap.size s3) wr acc xs ∧ acc ++ rest = l ∧ acc.length = k ∧
    RArgs w rest b (o + k * 9) ∧ argsOk rest ∧ argsWf rest ∧ Below w.heap.size w wr

set_option maxRecDepth 100000 in
set_option maxHeartbeats 4000000 in
/-- impl.argsOf. -/
theorem argsOf_any (l : List GArg) (w : World) (A : Option Addr) (len cap : Nat) (hok : argsOk l) (hwf : argsWf l) (hlen : l.length ≤ 300000) (hl : RArgS w l A len) :
    Calls Tryz.prog 60 #[.slice A len cap] w (ArgsPost l w) := by
  unfold ArgsPost
  obtain ⟨hl0, hl1⟩ := hl
  obtain ⟨i0, hi, hz0, hz1, hz2⟩ := info_parts infoAnyT
  by_cases hz : len = 0
  · subst hz
    have : l = [] := List.length_eq_zero_iff.1 hl0.symm
    subst this
    clear hl0 hl1
    go_enter Tryz.func60, Tryz.ntmps60
    go_wp2
    go_loopw [3, 9] (fun a c wr => a = .slice none 0 0 ∧ c = .int .i64 0 ∧ wr = w) (fun _ _ _ => 0)
    case atStart => exact ⟨rfl, rfl, rfl⟩
    case round =>
      obtain ⟨rfl, rfl, rfl⟩ := hrel
      go_wp2
      go_ret
      exact ⟨none, 0, 0, rfl, Nat.le_refl _, ⟨rfl, fun h => absurd h (by omega)⟩, Below.refl _ _⟩
  · obtain ⟨b, o, rfl, hr⟩ := hl1 (by omega)
    clear hl1
    have Hl0 := Lib.hid hl0
    clear hl0
    go_enter Tryz.func60, Tryz.ntmps60
    go_wp2
    go_loopw [3, 9] (fun a q wr => ArgRnd w l b o a q wr) (fun _ q _ => len - (intOf q).toNat)
    case atStart => exact ⟨0, l, [], 0, [], by omega, rfl, World.ownsRow_nil _ _ _ _, rfl, rfl, rfl, hr, hok, hwf, Below.refl _ _⟩
    case round =>
      clear hr hok hwf
      obtain ⟨k, rest, acc, n, xs, hk, rfl, hown, hx, hall, hacc, hrs, hok, hwf, hB⟩ := hrel
      have hk' := Hl0.out
      have HX := Lib.hid hx
      have HO := Lib.hid hown
      have Hall := Lib.hid hall
      have hn : n = k := by have h1 := hown.1; have h2 := RAX.len acc xs hx; omega
      have hsize := hB.size
      cases rest with
      | nil =>
        have hke : ¬ ((k : Int) < (len : Int)) := by simp at hk; omega
        obtain ⟨A', cap', rfl, hnc, hrsp⟩ := rany_of_owns (Q := New w) hown hx (fun b hb => hb.1) (fun b hb => hb)
        have HR := Lib.hid (And.intro hnc hrsp)
        clear hown hx hall hk hk' hrsp hrs hn hok hwf hacc hnc
        go_wp2
        go_ret
        refine ⟨A', _, cap', rfl, HR.out.1, ?_, hB⟩
        rw [← Hall.out, List.append_nil]; exact HR.out.2
      | cons a r =>
        have hlt : k < len := by simp only [List.length_cons] at hk; omega
        have hkk : k + 1 + r.length = l.length := by simp only [List.length_cons] at hk; omega
        have hkn : n + 1 ≤ 300000 := by omega
        obtain ⟨⟨hw0, hw2⟩, hvs, hok'⟩ := hok
        have hvs3 : a.val.size ≤ 300000 := by omega
        have HOK := Lib.hid hok'
        have HWv := Lib.hid hwf.1.2.2
        have HWr := Lib.hid hwf.2
        have HVo := Lib.hid (valueOf_any none a.val)
        obtain ⟨hwhat, hkey, hv, hr'⟩ := hrs
        have HRr := Lib.hid hr'
        have hK := keeps_of_below hB
        have hwhat := hK.cell hwhat
        have hkey := hK.cell hkey
        have hv := hv.keep hK
        have hbb : b < wr.heap.size := World.block_lt_of_cell? wr _ hwhat
        have HLT := Lib.hid (fun g hg => (hown.lt g hg).2)
        have HLO := Lib.hid (fun g hg => (hown.lt g hg).1)
        clear hr' hown hx hall hK hk hk' hok' hwf hn
        obtain ⟨what, key, val⟩ := a
        simp only at hwhat hkey hv hvs hvs3 hw0 hw2
        obtain ⟨vk, vn, vs, vt, vl⟩ := val
        unfold RVal at hv
        obtain ⟨c0, c1, c2, c3, c4, c5, Av, lenv, capv, c6, hlenv, hAv⟩ := hv
        have HSv := Lib.hid (show RS wr vl Av lenv from ⟨hlenv, hAv⟩)
        clear hlenv hAv
        have hwh : what = 0 ∨ what = 1 ∨ what = 2 := by omega
        rcases hwh with rfl | rfl | rfl
        · go_wp2_with (first
            | (go_at_call 92; refine (HVo.out _ _ _ _ hvs3 HWv.out (HSv.out.keep (keeps_of_below (by repeat' (first | with_reducible assumption | with_reducible exact Below.refl _ _ | with_reducible refine Below.setCell ?_ ?_ _ | with_reducible refine Below.alloc ?_ ?_ _ | with_reducible refine Below.drew ?_ | with_reducible refine below_drewN ?_ _ | omega | (simp; done) | (simp; omega)))))).mono ?_; rintro e w2 ⟨x2, y2, rfl, hr2, hb2⟩; have hsh := rsv_shape hr2; have HR2 := Lib.hid hr2; have HB2 := Lib.hid (keeps_below (show Below w.heap.size w _ from (by repeat' (first | with_reducible assumption | with_reducible exact Below.refl _ _ | with_reducible refine Below.setCell ?_ ?_ _ | with_reducible refine Below.alloc ?_ ?_ _ | with_reducible refine Below.drew ?_ | with_reducible refine below_drewN ?_ _ | omega | (simp; done) | (simp; omega)))) hb2); have HBr := Lib.hid (keeps_below (show Below wr.heap.size wr _ from (by repeat' (first | with_reducible assumption | with_reducible exact Below.refl _ _ | with_reducible refine Below.setCell ?_ ?_ _ | with_reducible refine Below.alloc ?_ ?_ _ | with_reducible refine Below.drew ?_ | with_reducible refine below_drewN ?_ _ | omega | (simp; done) | (simp; omega)))) hb2); obtain ⟨hc2, hf2⟩ := bcell hb2; have hB2 := HB2.out; have hBr2 := HBr.out; have hs2 := hb2.size; simp at hs2; have hl2 : wr.heap.size < w2.heap.size := (by omega); have HO2 := Lib.hid (own_below (HO.out.alloc _) hb2); clear hr2; obtain ⟨i2, rfl, hy⟩ := hsh; rcases hy with rfl | ⟨ty2, u2, rfl⟩)
            | (at_builtin; refine wpList_append_lies _ rfl (.tmp 25) (.tmp 31) 98 rfl w.heap.size 20 i0 _ 1 16 Tryz.underlying98 hi hz0 hz1 hz2 rfl (by decide) _ n xs rfl ((HO2.out.alloc _).alloc _) ⟨_, 0, none⟩ 1 1 [.iface 111 (.agg #[.string key, .int .u64 i2, .nilIface])] rfl rfl (by intro j u hj; exact cells_new _ _ _ _ (by simp) j u hj) (by intro u hu; simp at hu; subst hu; rfl) (by decide) (by unfold maxLen; omega) (by omega) (by simp; omega) _ rfl ?_; intro g cap3 w3 hown3 hgrow3 hat3 hlt3; have HO3 := Lib.hid hown3; have HG3 := Lib.hid hgrow3; have HA3 := Lib.hid hat3; clear hown3 hgrow3 hat3 hlt3)
            | (at_builtin; refine wpList_append_lies _ rfl (.tmp 25) (.tmp 31) 98 rfl w.heap.size 20 i0 _ 1 16 Tryz.underlying98 hi hz0 hz1 hz2 rfl (by decide) _ n xs rfl ((HO2.out.alloc _).alloc _) ⟨_, 0, none⟩ 1 1 [.iface 111 (.agg #[.string key, .int .u64 i2, .iface ty2 u2])] rfl rfl (by intro j u hj; exact cells_new _ _ _ _ (by simp) j u hj) (by intro u hu; simp at hu; subst hu; rfl) (by decide) (by unfold maxLen; omega) (by omega) (by simp; omega) _ rfl ?_; intro g cap3 w3 hown3 hgrow3 hat3 hlt3; have HO3 := Lib.hid hown3; have HG3 := Lib.hid hgrow3; have HA3 := Lib.hid hat3; clear hown3 hgrow3 hat3 hlt3))
          · refine ⟨⟨k + 1, r, acc ++ [_], n + 1, _, hkk, by push_cast; rfl, HO3.out, ?_, by rw [List.append_assoc]; exact Hall.out, by simp; exact hacc, ?_, HOK.out, HWr.out, ?_⟩, ?_⟩
            · exact rax_snoc (RAX.turn (keepsOn_of_below HBr.out _) (fun _ h _ => h) _ _ HX.out) (show RArg _ w2 _ _ from .inl ⟨rfl, _, _, rfl, HR2.out⟩) (fun g hg => by have := HLT.out g hg; first | omega | (simp; omega)) (by first | omega | (simp; done) | (simp; omega)) (fun P => ((KeepsOn.refl P _).alloc _).alloc _) (by first | omega | (simp; done) | (simp; omega)) HG3.out (HA3.out.elim (fun h => .inl h.symm) (fun h => .inr (by rw [← h]; rfl)))
            · have := HRr.out
              rwa [show o + (k + 1) * 9 = o + k * 9 + 9 by omega]
            · exact Below.grown ((HB2.out.alloc (by omega) _).alloc (by simp; omega) _) HG3.out (by first | omega | (simp; done) | (simp; omega)) (fun g hg => HLO.out g hg)
            · simp only [intOf]; omega
          · refine ⟨⟨k + 1, r, acc ++ [_], n + 1, _, hkk, by push_cast; rfl, HO3.out, ?_, by rw [List.append_assoc]; exact Hall.out, by simp; exact hacc, ?_, HOK.out, HWr.out, ?_⟩, ?_⟩
            · exact rax_snoc (RAX.turn (keepsOn_of_below HBr.out _) (fun _ h _ => h) _ _ HX.out) (show RArg _ w2 _ _ from .inl ⟨rfl, _, _, rfl, HR2.out⟩) (fun g hg => by have := HLT.out g hg; first | omega | (simp; omega)) (by first | omega | (simp; done) | (simp; omega)) (fun P => ((KeepsOn.refl P _).alloc _).alloc _) (by first | omega | (simp; done) | (simp; omega)) HG3.out (HA3.out.elim (fun h => .inl h.symm) (fun h => .inr (by rw [← h]; rfl)))
            · have := HRr.out
              rwa [show o + (k + 1) * 9 = o + k * 9 + 9 by omega]
            · exact Below.grown ((HB2.out.alloc (by omega) _).alloc (by simp; omega) _) HG3.out (by first | omega | (simp; done) | (simp; omega)) (fun g hg => HLO.out g hg)
            · simp only [intOf]; omega
        · have HAn := Lib.hid (fun P wx x y h => anyAll (P := P) (valueOf none (.mk vk vn vs vt vl)) wx x y h)
          go_wp2_with (first
            | (go_at_call 92; refine (HVo.out _ _ _ _ hvs3 HWv.out (HSv.out.keep (keeps_of_below (by repeat' (first | with_reducible assumption | with_reducible exact Below.refl _ _ | with_reducible refine Below.setCell ?_ ?_ _ | with_reducible refine Below.alloc ?_ ?_ _ | with_reducible refine Below.drew ?_ | with_reducible refine below_drewN ?_ _ | omega | (simp; done) | (simp; omega)))))).mono ?_; rintro e w2 ⟨x2, y2, rfl, hr2, hb2⟩; have hsh := rsv_shape hr2; have HR2 := Lib.hid hr2; have HB2 := Lib.hid (keeps_below (show Below w.heap.size w _ from (by repeat' (first | with_reducible assumption | with_reducible exact Below.refl _ _ | with_reducible refine Below.setCell ?_ ?_ _ | with_reducible refine Below.alloc ?_ ?_ _ | with_reducible refine Below.drew ?_ | with_reducible refine below_drewN ?_ _ | omega | (simp; done) | (simp; omega)))) hb2); have HBr := Lib.hid (keeps_below (show Below wr.heap.size wr _ from (by repeat' (first | with_reducible assumption | with_reducible exact Below.refl _ _ | with_reducible refine Below.setCell ?_ ?_ _ | with_reducible refine Below.alloc ?_ ?_ _ | with_reducible refine Below.drew ?_ | with_reducible refine below_drewN ?_ _ | omega | (simp; done) | (simp; omega)))) hb2); obtain ⟨hc2, hf2⟩ := bcell hb2; have hB2 := HB2.out; have hBr2 := HBr.out; have hs2 := hb2.size; simp at hs2; have hl2 : wr.heap.size < w2.heap.size := (by omega); have HO2 := Lib.hid (own_below (HO.out.alloc _) hb2); clear hr2; obtain ⟨i2, rfl, hy⟩ := hsh; rcases hy with rfl | ⟨ty2, u2, rfl⟩)
            | (go_at_call 101; refine (HAn.out (fun b => wr.heap.size + 1 ≤ b) _ _ _ (HR2.out.turn ((keeps_of_below (by repeat' (first | with_reducible assumption | with_reducible exact Below.refl _ _ | with_reducible refine Below.setCell ?_ ?_ _ | with_reducible refine Below.alloc ?_ ?_ _ | with_reducible refine Below.drew ?_ | with_reducible refine below_drewN ?_ _ | omega | (simp; done) | (simp; omega)))).on _) (fun b hb _ => by simp at hb; omega))).mono ?_; rintro e w4 ⟨z4, rfl, hr4, hb4⟩; have hz4 := hr4.shape; have HR4 := Lib.hid hr4; have HB4 := Lib.hid (keeps_below (show Below w.heap.size w _ from (by repeat' (first | with_reducible assumption | with_reducible exact Below.refl _ _ | with_reducible refine Below.setCell ?_ ?_ _ | with_reducible refine Below.alloc ?_ ?_ _ | with_reducible refine Below.drew ?_ | with_reducible refine below_drewN ?_ _ | omega | (simp; done) | (simp; omega)))) hb4); have HBr4 := Lib.hid (keeps_below (show Below wr.heap.size wr _ from (by repeat' (first | with_reducible assumption | with_reducible exact Below.refl _ _ | with_reducible refine Below.setCell ?_ ?_ _ | with_reducible refine Below.alloc ?_ ?_ _ | with_reducible refine Below.drew ?_ | with_reducible refine below_drewN ?_ _ | omega | (simp; done) | (simp; omega)))) hb4); obtain ⟨hc4, hf4⟩ := bcell hb4; have hs4 := hb4.size; simp at hs4; have HO4 := Lib.hid (own_below ((HO2.out.alloc _)) hb4); clear hr4; rcases hz4 with rfl | ⟨tz, uz, rfl⟩)
            | (at_builtin; refine wpList_append_lies _ rfl (.tmp 35) (.tmp 38) 98 rfl w.heap.size 20 i0 _ 1 16 Tryz.underlying98 hi hz0 hz1 hz2 rfl (by decide) _ n xs rfl (HO4.out.alloc _) ⟨_, 0, none⟩ 1 1 [.nilIface] rfl rfl (by intro j u hj; exact cells_new _ _ _ _ (by simp) j u hj) (by intro u hu; simp at hu; subst hu; rfl) (by decide) (by unfold maxLen; omega) (by omega) (by simp; omega) _ rfl ?_; intro g cap3 w3 hown3 hgrow3 hat3 hlt3; have HO3 := Lib.hid hown3; have HG3 := Lib.hid hgrow3; have HA3 := Lib.hid hat3; clear hown3 hgrow3 hat3 hlt3)
            | (at_builtin; refine wpList_append_lies _ rfl (.tmp 35) (.tmp 38) 98 rfl w.heap.size 20 i0 _ 1 16 Tryz.underlying98 hi hz0 hz1 hz2 rfl (by decide) _ n xs rfl (HO4.out.alloc _) ⟨_, 0, none⟩ 1 1 [.iface tz uz] rfl rfl (by intro j u hj; exact cells_new _ _ _ _ (by simp) j u hj) (by intro u hu; simp at hu; subst hu; rfl) (by decide) (by unfold maxLen; omega) (by omega) (by simp; omega) _ rfl ?_; intro g cap3 w3 hown3 hgrow3 hat3 hlt3; have HO3 := Lib.hid hown3; have HG3 := Lib.hid hgrow3; have HA3 := Lib.hid hat3; clear hown3 hgrow3 hat3 hlt3))
          all_goals
            refine ⟨⟨k + 1, r, acc ++ [_], n + 1, _, hkk, by push_cast; rfl, HO3.out, ?_, by rw [List.append_assoc]; exact Hall.out, by simp; exact hacc, ?_, HOK.out, HWr.out, ?_⟩, ?_⟩
            · exact rax_snoc (RAX.turn (keepsOn_of_below HBr4.out _) (fun _ h _ => h) _ _ HX.out) (show RArg _ w4 _ _ from .inr (.inl ⟨rfl, HR4.out⟩)) (fun g hg => by have := HLT.out g hg; first | omega | (simp; omega)) (by first | omega | (simp; done) | (simp; omega)) (fun P => (KeepsOn.refl P _).alloc _) (by first | omega | (simp; done) | (simp; omega)) HG3.out (HA3.out.elim (fun h => .inl h.symm) (fun h => .inr (by rw [← h]; rfl)))
            · have := HRr.out
              rwa [show o + (k + 1) * 9 = o + k * 9 + 9 by omega]
            · exact Below.grown (HB4.out.alloc (by omega) _) HG3.out (by first | omega | (simp; done) | (simp; omega)) (fun g hg => HLO.out g hg)
            · simp only [intOf]; omega
        · go_wp2_with (first
            | (go_at_call 92; refine (HVo.out _ _ _ _ hvs3 HWv.out (HSv.out.keep (keeps_of_below (by repeat' (first | with_reducible assumption | with_reducible exact Below.refl _ _ | with_reducible refine Below.setCell ?_ ?_ _ | with_reducible refine Below.alloc ?_ ?_ _ | with_reducible refine Below.drew ?_ | with_reducible refine below_drewN ?_ _ | omega | (simp; done) | (simp; omega)))))).mono ?_; rintro e w2 ⟨x2, y2, rfl, hr2, hb2⟩; have hsh := rsv_shape hr2; have HR2 := Lib.hid hr2; have HB2 := Lib.hid (keeps_below (show Below w.heap.size w _ from (by repeat' (first | with_reducible assumption | with_reducible exact Below.refl _ _ | with_reducible refine Below.setCell ?_ ?_ _ | with_reducible refine Below.alloc ?_ ?_ _ | with_reducible refine Below.drew ?_ | with_reducible refine below_drewN ?_ _ | omega | (simp; done) | (simp; omega)))) hb2); have HBr := Lib.hid (keeps_below (show Below wr.heap.size wr _ from (by repeat' (first | with_reducible assumption | with_reducible exact Below.refl _ _ | with_reducible refine Below.setCell ?_ ?_ _ | with_reducible refine Below.alloc ?_ ?_ _ | with_reducible refine Below.drew ?_ | with_reducible refine below_drewN ?_ _ | omega | (simp; done) | (simp; omega)))) hb2); obtain ⟨hc2, hf2⟩ := bcell hb2; have hB2 := HB2.out; have hBr2 := HBr.out; have hs2 := hb2.size; simp at hs2; have hl2 : wr.heap.size < w2.heap.size := (by omega); have HO2 := Lib.hid (own_below (HO.out.alloc _) hb2); clear hr2; obtain ⟨i2, rfl, hy⟩ := hsh; rcases hy with rfl | ⟨ty2, u2, rfl⟩)
            | (at_builtin; refine wpList_append_lies _ rfl (.tmp 18) (.tmp 21) 98 rfl w.heap.size 20 i0 _ 1 16 Tryz.underlying98 hi hz0 hz1 hz2 rfl (by decide) _ n xs rfl ((HO2.out.alloc _).alloc _) ⟨_, 0, none⟩ 1 1 [.iface 109 (.agg #[.int .u64 i2, .nilIface])] rfl rfl (by intro j u hj; exact cells_new _ _ _ _ (by simp) j u hj) (by intro u hu; simp at hu; subst hu; rfl) (by decide) (by unfold maxLen; omega) (by omega) (by simp; omega) _ rfl ?_; intro g cap3 w3 hown3 hgrow3 hat3 hlt3; have HO3 := Lib.hid hown3; have HG3 := Lib.hid hgrow3; have HA3 := Lib.hid hat3; clear hown3 hgrow3 hat3 hlt3)
            | (at_builtin; refine wpList_append_lies _ rfl (.tmp 18) (.tmp 21) 98 rfl w.heap.size 20 i0 _ 1 16 Tryz.underlying98 hi hz0 hz1 hz2 rfl (by decide) _ n xs rfl ((HO2.out.alloc _).alloc _) ⟨_, 0, none⟩ 1 1 [.iface 109 (.agg #[.int .u64 i2, .iface ty2 u2])] rfl rfl (by intro j u hj; exact cells_new _ _ _ _ (by simp) j u hj) (by intro u hu; simp at hu; subst hu; rfl) (by decide) (by unfold maxLen; omega) (by omega) (by simp; omega) _ rfl ?_; intro g cap3 w3 hown3 hgrow3 hat3 hlt3; have HO3 := Lib.hid hown3; have HG3 := Lib.hid hgrow3; have HA3 := Lib.hid hat3; clear hown3 hgrow3 hat3 hlt3))
          · refine ⟨⟨k + 1, r, acc ++ [_], n + 1, _, hkk, by push_cast; rfl, HO3.out, ?_, by rw [List.append_assoc]; exact Hall.out, by simp; exact hacc, ?_, HOK.out, HWr.out, ?_⟩, ?_⟩
            · exact rax_snoc (RAX.turn (keepsOn_of_below HBr.out _) (fun _ h _ => h) _ _ HX.out) (show RArg _ w2 _ _ from .inr (.inr ⟨rfl, _, _, rfl, HR2.out⟩)) (fun g hg => by have := HLT.out g hg; first | omega | (simp; omega)) (by first | omega | (simp; done) | (simp; omega)) (fun P => ((KeepsOn.refl P _).alloc _).alloc _) (by first | omega | (simp; done) | (simp; omega)) HG3.out (HA3.out.elim (fun h => .inl h.symm) (fun h => .inr (by rw [← h]; rfl)))
            · have := HRr.out
              rwa [show o + (k + 1) * 9 = o + k * 9 + 9 by omega]
            · exact Below.grown ((HB2.out.alloc (by omega) _).alloc (by simp; omega) _) HG3.out (by first | omega | (simp; done) | (simp; omega)) (fun g hg => HLO.out g hg)
            · simp only [intOf]; omega
          · refine ⟨⟨k + 1, r, acc ++ [_], n + 1, _, hkk, by push_cast; rfl, HO3.out, ?_, by rw [List.append_assoc]; exact Hall.out, by simp; exact hacc, ?_, HOK.out, HWr.out, ?_⟩, ?_⟩
            · exact rax_snoc (RAX.turn (keepsOn_of_below HBr.out _) (fun _ h _ => h) _ _ HX.out) (show RArg _ w2 _ _ from .inr (.inr ⟨rfl, _, _, rfl, HR2.out⟩)) (fun g hg => by have := HLT.out g hg; first | omega | (simp; omega)) (by first | omega | (simp; done) | (simp; omega)) (fun P => ((KeepsOn.refl P _).alloc _).alloc _) (by first | omega | (simp; done) | (simp; omega)) HG3.out (HA3.out.elim (fun h => .inl h.symm) (fun h => .inr (by rw [← h]; rfl)))
            · have := HRr.out
              rwa [show o + (k + 1) * 9 = o + k * 9 + 9 by omega]
            · exact Below.grown ((HB2.out.alloc (by omega) _).alloc (by simp; omega) _) HG3.out (by first | omega | (simp; done) | (simp; omega)) (fun g hg => HLO.out g hg)
            · simp only [intOf]; omega

end Go.Proofs.YtihhgnbgejjijaaGreatDoor.Va
