/- impl.attrsOf: what it hands back has room for what it holds. -/
import Derived.Test.YtihhgnbgejjijaaGreatDoorOfD
import Derived.Test.YtihhgnbgejjijaaGreatDoorLog
import Derived.Test.YtihhgnbgejjijaaGreatDoorLogA
import Derived.Test.YtihhgnbgejjijaaGreatDoorLgW
import Derived.Test.YtihhgnbgejjijaaGreatDoorLgSame
import Derived.Test.YtihhgnbgejjijaaGreatDoorLgPlay
import Derived.Deep.RegionHeldLaw
namespace Go.Proofs.YtihhgnbgejjijaaGreatDoor.Va
set_option linter.unusedVariables false
set_option linter.unusedSimpArgs false
open Go Go.RowKit

theorem own_fit {w : World} {base : Nat} {e : TypeId} {size : Nat} {A : Option Addr} {n cap m : Nat} {xs : List Value} (h : w.ownsRow base e size (.slice A n cap) m xs) : n ≤ cap := by
  rcases h.2 with ⟨h, _⟩ | ⟨g, c, cur, h, _, _, hn, _⟩
  · injection h with _ h1 h2; omega
  · injection h with _ h1 h2; omega
def AttrsFit (l : SAttrs) (w : World) (e : Ending) (w' : World) : Prop := ∃ A len cap, e = .returned (.slice A len cap) ∧ len ≤ cap ∧ RSS (New w) w' l A len ∧ Below w.heap.size w w'
def ValF (c : Option Addr) (l : GAttrs) : Prop := ∀ (w : World) (A : Option Addr) (len cap : Nat), l.size ≤ 300000 → l.wf → RS w l A len →
  Calls Tryz.prog 67 #[.slice A len cap, .pointer c] w (AttrsFit (attrsOf c l) w)

set_option maxRecDepth 100000 in
set_option maxHeartbeats 400000 in
theorem attrs_fit (c : Option Addr) (l : GAttrs) (ih : ∀ d : GVal, d.size ≤ l.size → ValV c d) : ValF c l := by
  intro w A len cap hsz hwf hl
  obtain ⟨hl0, hl1⟩ := hl
  obtain ⟨i0, hi, hz0, hz1, hz2⟩ := info_parts infoSAttr
  by_cases hz : len = 0
  · subst hz
    have : l = .nil := by cases l with | nil => rfl | cons => simp [GAttrs.len] at hl0
    subst this
    clear hl0 hl1
    go_enter Tryz.func67, Tryz.ntmps67
    go_wp2
    go_loopw [5, 10] (fun a c wr => a = .slice none 0 0 ∧ c = .int .i64 0 ∧ wr = w) (fun _ _ _ => 0)
    case atStart => exact ⟨rfl, rfl, rfl⟩
    case round =>
      obtain ⟨rfl, rfl, rfl⟩ := hrel
      go_wp2
      go_ret
      exact ⟨none, 0, 0, rfl, Nat.le_refl _, by rw [attrsOf_nil]; exact RSS.nil_ _ _ _, Below.refl _ _⟩
  · obtain ⟨b, o, rfl, hr⟩ := hl1 (by omega)
    clear hl1
    have Hl0 := Lib.hid hl0
    clear hl0
    go_enter Tryz.func67, Tryz.ntmps67
    go_wp2
    go_loopw [5, 10] (fun a q wr => OfRnd c w l b o a q wr) (fun _ q _ => len - (intOf q).toNat)
    case atStart => exact ⟨0, l, .nil, 0, [], by omega, rfl, World.ownsRow_nil _ _ _ _, rfl, rfl, Nat.le_refl _, hr, Nat.le_refl _, hwf, Below.refl _ _⟩
    case round =>
      obtain ⟨k, rest, acc, n, xs, hk, rfl, hown, hx, hval, hacc, hrs, hrz, hrw, hB⟩ := hrel
      have hk' := Hl0.out
      have HX := Lib.hid hx
      have HO := Lib.hid hown
      have Hval := Lib.hid hval
      have hn : n = acc.len := by have h1 := hown.1; have h2 := RSX.len acc xs hx; omega
      have hll := len_le_size l
      have hsize := hB.size
      cases rest with
      | nil =>
        have hke : ¬ ((k : Int) < (len : Int)) := by simp [GAttrs.len] at hk; omega
        obtain ⟨A', cap', rfl, hrsp⟩ := rss_of_owns (Q := New w) hown hx (fun b hb => hb.1) (fun b hb => hb)
        have HR := Lib.hid hrsp
        have HFT := Lib.hid (own_fit hown)
        clear hown hx hval hk hk' hrsp hrs hn hrw
        go_wp2
        go_ret
        refine ⟨A', _, cap', rfl, HFT.out, ?_, hB⟩
        rw [Hval.out, attrsOf_nil, sappend_nil]; exact HR.out
      | cons key v r =>
        have hlt : k < len := by simp only [GAttrs.len] at hk; omega
        have hkk : k + 1 + r.len = l.len := by simp only [GAttrs.len] at hk; omega
        have hvs : v.size + r.size ≤ l.size := by simpa only [GAttrs.size] using hrz
        have hrle : r.size ≤ l.size := by omega
        have hvle : v.size ≤ 300000 := by omega
        have Hih := Lib.hid (ih v (by omega))
        unfold GAttrs.wf at hrw
        have Hvw := Lib.hid hrw.2.1
        have Hrw := Lib.hid hrw.2.2
        unfold RAs at hrs
        obtain ⟨hkey, hv, hr'⟩ := hrs
        have Hr := Lib.hid hr'
        have hv := hv.keep (keeps_of_below hB)
        have hkey := (keeps_of_below hB).cell hkey
        have hbb : b < wr.heap.size := World.block_lt_of_cell? wr _ hkey
        have Hend := Lib.hid (Hval.out.trans (congrArg (SAttrs.append acc) (attrsOf_cons c key v r)))
        obtain ⟨vk, vn, vs, vt, vl⟩ := v
        unfold RVal at hv
        obtain ⟨c0, c1, c2, c3, c4, c5, A', len', cap', c6, hlen', hA'⟩ := hv
        have HS := Lib.hid (show RS wr vl A' len' from ⟨hlen', hA'⟩)
        have hkn : n + 1 ≤ 300000 := by omega
        have HLT := Lib.hid (fun g hg => (hown.lt g hg).2)
        clear hlen' hA' hr' hr ih hown hx hval hk hk' hrz hrw hvs Hval hn
        go_wp2
        go_region_held_law (fun w' => w'.cell? ⟨wr.heap.size, 0, none⟩ = some (.string key) ∧ w'.cell? ⟨wr.heap.size, 1, none⟩ = some (.int .i64 vk) ∧ w'.cell? ⟨wr.heap.size, 2, none⟩ = some (.int .u64 vn) ∧ w'.cell? ⟨wr.heap.size, 3, none⟩ = some (.string vs) ∧ w'.cell? ⟨wr.heap.size, 4, none⟩ = some (.int .i64 vt.sec) ∧ w'.cell? ⟨wr.heap.size, 5, none⟩ = some (.int .i64 vt.nsec) ∧ w'.cell? ⟨wr.heap.size, 6, none⟩ = some (.int .i64 vt.off) ∧ w'.cell? ⟨wr.heap.size, 7, none⟩ = some (.slice A' len' cap')) (go_keep) (first
          | (refine step_append_lies _ rfl (.tmp 14) (.tmp 22) 113 rfl w.heap.size 111 i0 _ 3 40 Tryz.underlying113 hi hz0 hz1 hz2 rfl (by decide) _ n xs rfl (HO2.out.alloc _) ⟨_, 0, none⟩ 1 1 [.string key, x2, y2] rfl rfl (by intro j u hj; exact cells_new _ _ _ _ (by simp) j u hj) H1.out (by decide) (by unfold maxLen; omega) (by omega) (by simp; omega) _ rfl ?_; intro g cap3 w3 hown3 hgrow3 hat3 hlt3; have hc3 : ∀ o', w3.cell? ⟨wr.heap.size, o', none⟩ = w2.cell? ⟨wr.heap.size, o', none⟩ := (fun o' => (World.cell?_of_block (a := ⟨wr.heap.size, o', none⟩) (hgrow3.block wr.heap.size (by simp; omega) (fun e => by have := HLT.out _ e.symm; omega))).trans (World.cell?_of_block (a := ⟨wr.heap.size, o', none⟩) (Below.heap_alloc w2 _ _ hl2))); have HO3 := Lib.hid hown3; have HG3 := Lib.hid hgrow3; have HA3 := Lib.hid hat3; clear hown3 hgrow3 hat3 hlt3)
          | (go_at_call 92; refine (Hih.out _ _ _ _ hvle Hvw.out (HS.out.keep (keeps_of_below (by repeat' (first | with_reducible assumption | with_reducible exact Below.refl _ _ | with_reducible refine Below.setCell ?_ ?_ _ | with_reducible refine Below.alloc ?_ ?_ _ | with_reducible refine Below.drew ?_ | with_reducible refine below_drewN ?_ _ | omega | (simp; done) | (simp; omega)))))).mono ?_; rintro e w2 ⟨x2, y2, rfl, hr2, hb2⟩; have HR2 := Lib.hid hr2; have HB2 := Lib.hid (keeps_below (show Below w.heap.size w _ from (by repeat' (first | with_reducible assumption | with_reducible exact Below.refl _ _ | with_reducible refine Below.setCell ?_ ?_ _ | with_reducible refine Below.alloc ?_ ?_ _ | with_reducible refine Below.drew ?_ | with_reducible refine below_drewN ?_ _ | omega | (simp; done) | (simp; omega)))) hb2); have HBr := Lib.hid (keeps_below (show Below wr.heap.size wr _ from (by repeat' (first | with_reducible assumption | with_reducible exact Below.refl _ _ | with_reducible refine Below.setCell ?_ ?_ _ | with_reducible refine Below.alloc ?_ ?_ _ | with_reducible refine Below.drew ?_ | with_reducible refine below_drewN ?_ _ | omega | (simp; done) | (simp; omega)))) hb2); obtain ⟨hc2, hf2⟩ := bcell hb2; have hs2 := hb2.size; simp at hs2; have hl2 : wr.heap.size < w2.heap.size := (by omega); have HO2 := Lib.hid (own_below ((HO.out.alloc _).drew) hb2); have H1 := Lib.hid (rsv_ones key hr2); clear hr2))
        go_wp2
        refine ⟨⟨k + 1, r, SAttrs.snoc acc key (valueOf c (.mk vk vn vs vt vl)), n + 1, _, hkk, by push_cast; rfl, HO3.out, ?_, ?_, ?_, ?_, hrle, Hrw.out, ?_⟩, ?_⟩
        · exact rsx_snoc (RSX.turn (keepsOn_of_below HBr.out _) (fun _ h _ => h) _ _ HX.out) HR2.out (fun g hg => by have := HLT.out g hg; simp; omega) (by simp; omega) (fun P => (KeepsOn.refl P _).alloc _) (by simp) HG3.out (HA3.out.elim (fun h => .inl h.symm) (fun h => .inr (by rw [← h]; rfl)))
        · rw [ssnoc_append]; exact Hend.out
        · rw [slen_snoc]; omega
        · have := Hr.out
          rwa [show o + (k + 1) * 8 = o + k * 8 + 8 by omega]
        · exact Below.grown (HB2.out.alloc (by omega) _) HG3.out (by simp; omega) (fun g hg => (HO.out.lt g hg).1)
        · simp only [intOf]; omega

theorem attrsOf_fit (c : Option Addr) (l : GAttrs) : ValF c l := attrs_fit c l (fun d _ => valueOf_any c d)

end Go.Proofs.YtihhgnbgejjijaaGreatDoor.Va

/- Debug, Info, Warn, Error, and Enabled with a nil context: the walks. -/
namespace Go.Proofs.YtihhgnbgejjijaaGreatDoor.Va
set_option linter.unusedVariables false
set_option linter.unusedSimpArgs false
open Go Go.RowKit

set_option maxRecDepth 100000 in
set_option maxHeartbeats 1000000 in
/-- (*Logger).Enabled with a nil context. -/
theorem lenabled_nil (lg : Nat) (min lvl : Int) (c : Nat) (u : Value) (l : List GEv) (w : World) (h : EvR c u l w) (hn : l.length < 300000)
    (hl : w.cell? ⟨lg, 0, none⟩ = some (.iface 95 (.agg #[.int .i64 min, .bool false, .pointer (some ⟨c, 0, none⟩)]))) :
    Calls Tryz.prog 88 #[.pointer (some ⟨lg, 0, none⟩), .nilIface, .int .i64 lvl] w (EvPost c u (l ++ [evAsk min lvl]) (.bool (decide (min ≤ lvl))) w) := by
  obtain ⟨xs, hU, hx⟩ := h
  refine Calls.mono (R := EvEnd c u l.length xs [.int .i64 0, .int .i64 lvl, .bool (decide (min ≤ lvl)), .string ByteArray.empty, .string ByteArray.empty, .slice none 0 0] (.bool (decide (min ≤ lvl))) w) ?_ (by
    rintro e w' ⟨rfl, v, hv, hT, hN⟩
    exact ⟨rfl, v, evr_add (ev := evAsk min lvl) hx hT hN hv (RSP.nil_ _ _ _), hT, hN⟩)
  clear hx
  generalize l.length = n at hU hn ⊢
  obtain ⟨Q, hQ⟩ : ∃ Q : Ending → World → Prop, Q = EvEnd c u n xs [.int .i64 0, .int .i64 lvl, .bool (decide (min ≤ lvl)), .string ByteArray.empty, .string ByteArray.empty, .slice none 0 0] (.bool (decide (min ≤ lvl))) w := ⟨_, rfl⟩
  rw [← hQ]
  have HQ := Lib.hid hQ
  have HE := Lib.hid (fun bg wx (hb : Below w.heap.size w wx) => enabled_any min lvl false (.iface 9 (.string bg)) c u n xs wx (hU.below hb) hn)
  clear hQ hU
  have mv := meth_enabled
  unfold EvEnd at HE
  go_enter Tryz.func88, Tryz.ntmps88
  go_wp2_with (first
    | (go_at_call 121; (refine (handler_any lg _ _ hl).mono ?_); rintro e w1 ⟨rfl, hb1⟩; have HB1 := Lib.hid hb1; clear hb1)
    | (go_at_call 245; (refine (HE.out _ _ HB1.out).mono ?_); rintro e w2 ⟨rfl, v2, hv2, hT2, hN2⟩; have H2 := Lib.hid (And.intro hv2 (And.intro hT2 hN2)); clear hv2 hT2 hN2))
  rw [HQ.out]
  exact ⟨rfl, v2, H2.out.1, (Two.of_below HB1.out).then H2.out.2.1, by
    rcases H2.out.2.2 with e | ⟨g, e, hg⟩
    · exact .inl e
    · exact .inr ⟨g, e, Nat.le_trans HB1.out.size hg⟩⟩

def bgText : ByteArray := ⟨#[98, 97, 99, 107, 103, 114, 111, 117, 110, 100]⟩

set_option maxRecDepth 100000 in
set_option maxHeartbeats 400000 in
/-- (*Logger).Debug is log at its level. -/
theorem Debug_any (lg msg args : Value) (w : World) (Q : Ending → World → Prop) (h : Calls Tryz.prog 108 #[lg, .iface 9 (.string bgText), .int .i64 (-4), msg, args] w (fun e w' => e = .returned (.tuple #[]) ∧ Q e w')) :
    Calls Tryz.prog 84 #[lg, msg, args] w Q := by
  have H := Lib.hid h
  clear h
  unfold bgText at H
  go_enter Tryz.func84, Tryz.ntmps84
  go_wp2_with (go_at_call 108; (with_reducible refine H.out.mono ?_); rintro e w1 ⟨rfl, h1⟩; have H1 := Lib.hid h1; clear h1)
  exact bodyPost_end (v := .tuple #[]) (by simp [results, Tryz.results84, go_sem]) rfl H1.out

set_option maxRecDepth 100000 in
set_option maxHeartbeats 400000 in
/-- (*Logger).Info is log at its level. -/
theorem Info_any (lg msg args : Value) (w : World) (Q : Ending → World → Prop) (h : Calls Tryz.prog 108 #[lg, .iface 9 (.string bgText), .int .i64 0, msg, args] w (fun e w' => e = .returned (.tuple #[]) ∧ Q e w')) :
    Calls Tryz.prog 85 #[lg, msg, args] w Q := by
  have H := Lib.hid h
  clear h
  unfold bgText at H
  go_enter Tryz.func85, Tryz.ntmps85
  go_wp2_with (go_at_call 108; (with_reducible refine H.out.mono ?_); rintro e w1 ⟨rfl, h1⟩; have H1 := Lib.hid h1; clear h1)
  exact bodyPost_end (v := .tuple #[]) (by simp [results, Tryz.results85, go_sem]) rfl H1.out

set_option maxRecDepth 100000 in
set_option maxHeartbeats 400000 in
/-- (*Logger).Warn is log at its level. -/
theorem Warn_any (lg msg args : Value) (w : World) (Q : Ending → World → Prop) (h : Calls Tryz.prog 108 #[lg, .iface 9 (.string bgText), .int .i64 4, msg, args] w (fun e w' => e = .returned (.tuple #[]) ∧ Q e w')) :
    Calls Tryz.prog 86 #[lg, msg, args] w Q := by
  have H := Lib.hid h
  clear h
  unfold bgText at H
  go_enter Tryz.func86, Tryz.ntmps86
  go_wp2_with (go_at_call 108; (with_reducible refine H.out.mono ?_); rintro e w1 ⟨rfl, h1⟩; have H1 := Lib.hid h1; clear h1)
  exact bodyPost_end (v := .tuple #[]) (by simp [results, Tryz.results86, go_sem]) rfl H1.out

set_option maxRecDepth 100000 in
set_option maxHeartbeats 400000 in
/-- (*Logger).Error is log at its level. -/
theorem Error_any (lg msg args : Value) (w : World) (Q : Ending → World → Prop) (h : Calls Tryz.prog 108 #[lg, .iface 9 (.string bgText), .int .i64 8, msg, args] w (fun e w' => e = .returned (.tuple #[]) ∧ Q e w')) :
    Calls Tryz.prog 87 #[lg, msg, args] w Q := by
  have H := Lib.hid h
  clear h
  unfold bgText at H
  go_enter Tryz.func87, Tryz.ntmps87
  go_wp2_with (go_at_call 108; (with_reducible refine H.out.mono ?_); rintro e w1 ⟨rfl, h1⟩; have H1 := Lib.hid h1; clear h1)
  exact bodyPost_end (v := .tuple #[]) (by simp [results, Tryz.results87, go_sem]) rfl H1.out

end Go.Proofs.YtihhgnbgejjijaaGreatDoor.Va

/- Log, LogAttrs, With, WithGroup, Enabled of a Logger over a keeper: one contract each, by the state LgSt. -/
namespace Go.Proofs.YtihhgnbgejjijaaGreatDoor.Va
set_option linter.unusedVariables false
set_option linter.unusedSimpArgs false
open Go Go.RowKit

/-- The handler that a Logger holds. -/
def KV (min : Int) (c : Nat) : Value := .iface 95 (.agg #[.int .i64 min, .bool false, .pointer (some ⟨c, 0, none⟩)])
/-- The Logger lg, whose keeper's variable (block w.heap.size) holds the events acc. -/
def LgSt (w : World) (min : Int) (lg : Nat) (u : Value) (acc : List GEv) (wr : World) : Prop :=
  EvR w.heap.size u acc wr ∧ wr.cell? ⟨lg, 0, none⟩ = some (KV min w.heap.size) ∧ lg ≠ w.heap.size ∧ some lg ≠ u.ownBlock ∧ Below w.heap.size w wr
def LogEv (min lvl : Int) (msg : ByteArray) (D : GAttrs) : List GEv := if lvl < min then [evAsk min lvl] else [evAsk min lvl, ⟨3, lvl, false, ByteArray.empty, msg, D⟩]
def ArgsFine (al : List GArg) : Prop := argsOk al ∧ argsWf al ∧ pairsOk al ∧ al.length ≤ 299999 ∧ vSizeAll (attrsOf none (rcRaw al)).full ≤ 700000 ∧ vSizeAll (attrsOf none (rcRaw al)) ≤ 700000
/-- What a call leaves. -/
def StPost (w : World) (min : Int) (lg : Nat) (u : Value) (acc : List GEv) (bx : Nat) (w1 w2 : World) : Prop := (∃ v, LgSt w min lg v acc w2) ∧ ∀ o, w2.cell? ⟨bx, o, none⟩ = w1.cell? ⟨bx, o, none⟩

theorem LgSt.below {w wr wx : World} {min : Int} {lg : Nat} {u : Value} {acc : List GEv} (h : LgSt w min lg u acc wr) (hb : Below wr.heap.size wr wx) : LgSt w min lg u acc wx :=
  ⟨h.1.below hb, (keeps_of_below hb).cell h.2.1, h.2.2.1, h.2.2.2.1, keeps_below h.2.2.2.2 hb⟩
theorem LgSt.post {w w1 w2 : World} {min : Int} {lg bx : Nat} {u : Value} {acc l : List GEv} {r : Value} {e : Ending} (h : LgSt w min lg u acc w1) (hw : w.heap.size ≤ w1.heap.size) (hx : bx < w1.heap.size ∧ bx ≠ w.heap.size ∧ some bx ≠ u.ownBlock) (hp : EvPost w.heap.size u l r w1 e w2) :
    e = .returned r ∧ StPost w min lg u l bx w1 w2 := by
  obtain ⟨rfl, v, hE, hT, hN⟩ := hp
  have hlt : lg < w1.heap.size := World.block_lt_of_cell? w1 _ h.2.1
  refine ⟨rfl, ⟨v, hE, (hT.cell hlt h.2.2.1 h.2.2.2.1).trans h.2.1, h.2.2.1, newRow_ne hN hlt h.2.2.2.1, ?_⟩, fun o => hT.cell hx.1 hx.2.1 hx.2.2⟩
  exact Two.under h.2.2.2.2 (Nat.le_refl _) hT (Nat.le_refl _) (fun g hg => Nat.le_of_lt (h.1.own g hg).1)

variable {w w1 : World} {min : Int} {lg bx : Nat} {u : Value} {acc : List GEv}
/-- log. -/
theorem log_st {P : Nat → Prop} (lvl : Int) (msg : ByteArray) (al : List GArg) (A : Option Addr) (len cap : Nat) (ctx : Value) (hctx : ctx = .nilIface ∨ ∃ bg, ctx = .iface 9 (.string bg)) (h : LgSt w min lg u acc w1) (hx : bx < w1.heap.size ∧ bx ≠ w.heap.size ∧ some bx ≠ u.ownBlock) (hn : acc.length < 299998) (ha : RAnyS P w1 al A len) (hlc : len ≤ cap) (hf : ArgsFine al)
    (hPr : ∀ b, P b → b < w1.heap.size → b ≠ w.heap.size ∧ some b ≠ u.ownBlock) :
    Calls Tryz.prog 108 #[.pointer (some ⟨lg, 0, none⟩), ctx, .int .i64 lvl, .string msg, .slice A len cap] w1 (fun e w2 => e = .returned (.tuple #[]) ∧ StPost w min lg u (acc ++ LogEv min lvl msg (argsTold al)) bx w1 w2) := by
  have hsz := h.2.2.2.2.size
  obtain ⟨h1, h2, h3, h4, h5, h6⟩ := hf
  unfold LogEv
  by_cases hle : min ≤ lvl
  · rw [if_neg (by omega)]
    exact (log_yes lg ctx hctx min lvl _ u acc al msg w1 A len cap h.1 hn h.2.1 ⟨h.2.2.1, h.2.2.2.1⟩ hle ha hlc h1 h2 h3 h4 h5 hPr).mono (fun e w2 hp => h.post hsz hx hp)
  · rw [if_pos (by omega)]
    exact (log_no lg ctx hctx min lvl _ u acc msg _ w1 h.1 hn h.2.1 hle).mono (fun e w2 hp => h.post hsz hx hp)
/-- logAttrs. -/
theorem logA_st {P : Nat → Prop} (lvl : Int) (msg : ByteArray) (al : SAttrs) (A : Option Addr) (len cap : Nat) (ctx : Value) (hctx : ctx = .nilIface ∨ ∃ bg, ctx = .iface 9 (.string bg)) (h : LgSt w min lg u acc w1) (hx : bx < w1.heap.size ∧ bx ≠ w.heap.size ∧ some bx ≠ u.ownBlock) (hn : acc.length < 299998) (ha : RSS P w1 al A len) (hlc : len ≤ cap) (hlen : al.len ≤ 299999) (hsz2 : vSizeAll al.full ≤ 700000)
    (hPr : ∀ b, P b → b < w1.heap.size → b ≠ w.heap.size ∧ some b ≠ u.ownBlock) :
    Calls Tryz.prog 120 #[.pointer (some ⟨lg, 0, none⟩), ctx, .int .i64 lvl, .string msg, .slice A len cap] w1 (fun e w2 => e = .returned (.tuple #[]) ∧ StPost w min lg u (acc ++ LogEv min lvl msg (attrsTold al.full)) bx w1 w2) := by
  have hsz := h.2.2.2.2.size
  unfold LogEv
  by_cases hle : min ≤ lvl
  · rw [if_neg (by omega)]
    exact (logA_yes lg ctx hctx min lvl _ u acc al msg w1 A len cap h.1 hn h.2.1 ⟨h.2.2.1, h.2.2.2.1⟩ hle ha hlc hlen hsz2 hPr).mono (fun e w2 hp => h.post hsz hx hp)
  · rw [if_pos (by omega)]
    exact (logA_no lg ctx hctx min lvl _ u acc msg _ w1 h.1 hn h.2.1 hle).mono (fun e w2 hp => h.post hsz hx hp)
/-- Enabled. -/
theorem enabled_st (lvl : Int) (h : LgSt w min lg u acc w1) (hx : bx < w1.heap.size ∧ bx ≠ w.heap.size ∧ some bx ≠ u.ownBlock) (hn : acc.length < 299998) :
    Calls Tryz.prog 88 #[.pointer (some ⟨lg, 0, none⟩), .nilIface, .int .i64 lvl] w1 (fun e w2 => e = .returned (.bool (decide (min ≤ lvl))) ∧ StPost w min lg u (acc ++ [evAsk min lvl]) bx w1 w2) :=
  (lenabled_nil lg min lvl _ u acc w1 h.1 (by omega) h.2.1).mono (fun e w2 hp => h.post h.2.2.2.2.size hx hp)
/-- With and WithGroup leave another Logger. -/
theorem LgSt.post2 {w2 : World} {l : List GEv} {e : Ending} (h : LgSt w min lg u acc w1) (hx : bx < w1.heap.size ∧ bx ≠ w.heap.size ∧ some bx ≠ u.ownBlock) (hp : LgPost w.heap.size u l (KV min w.heap.size) w1 e w2) :
    ∃ lg2, e = .returned (.pointer (some ⟨lg2, 0, none⟩)) ∧ StPost w min lg2 u l bx w1 w2 := by
  obtain ⟨lg2, v, rfl, hc, h1, h2, hE, hT, hN⟩ := hp
  exact ⟨lg2, rfl, ⟨v, hE, hc, h1, h2, Two.under h.2.2.2.2 (Nat.le_refl _) hT (Nat.le_refl _) (fun g hg => Nat.le_of_lt (h.1.own g hg).1)⟩, fun o => hT.cell hx.1 hx.2.1 hx.2.2⟩
theorem with_st {P : Nat → Prop} (al : List GArg) (A : Option Addr) (len cap : Nat) (h : LgSt w min lg u acc w1) (hx : bx < w1.heap.size ∧ bx ≠ w.heap.size ∧ some bx ≠ u.ownBlock) (hn : acc.length < 299998) (ha : RAnyS P w1 al A len) (hlc : len ≤ cap) (hf : ArgsFine al) (name : ByteArray) (level : Int) (msg : ByteArray) (attrs : GAttrs)
    (hPr : ∀ b, P b → b < w1.heap.size → b ≠ w.heap.size ∧ some b ≠ u.ownBlock) :
    Calls Tryz.prog 81 #[.pointer (some ⟨lg, 0, none⟩), .slice A len cap] w1 (fun e w2 => ∃ lg2, e = .returned (.pointer (some ⟨lg2, 0, none⟩)) ∧ StPost w min lg2 u (acc ++ madeEv min ⟨0, name, level, msg, al, attrs⟩) bx w1 w2) := by
  obtain ⟨h1, h2, h3, h4, h5, h6⟩ := hf
  cases al with
  | nil =>
    obtain rfl : len = 0 := ha.1
    refine (with_none lg A cap w1).mono ?_
    rintro e w2 ⟨rfl, rfl⟩
    exact ⟨lg, rfl, ⟨u, by rw [show madeEv min ⟨0, name, level, msg, [], attrs⟩ = [] from rfl, List.append_nil]; exact h⟩, fun o => rfl⟩
  | cons a r =>
    have h0 : 0 < len := by rw [ha.1]; simp
    exact (with_some lg min _ u acc (a :: r) w1 A len cap h.1 (by omega) h.2.1 ⟨h.2.2.1, h.2.2.2.1⟩ h0 ha hlc h1 h2 h3 h4 h6).mono (fun e w2 hp => h.post2 hx hp)
theorem group_st (name : ByteArray) (h : LgSt w min lg u acc w1) (hx : bx < w1.heap.size ∧ bx ≠ w.heap.size ∧ some bx ≠ u.ownBlock) (hn : acc.length < 299998) (level : Int) (msg : ByteArray) (al : List GArg) (attrs : GAttrs) :
    Calls Tryz.prog 82 #[.pointer (some ⟨lg, 0, none⟩), .string name] w1 (fun e w2 => ∃ lg2, e = .returned (.pointer (some ⟨lg2, 0, none⟩)) ∧ StPost w min lg2 u (acc ++ madeEv min ⟨1, name, level, msg, al, attrs⟩) bx w1 w2) := by
  by_cases hnm : name = ByteArray.empty
  · refine (group_none lg name hnm w1).mono ?_
    rintro e w2 ⟨rfl, rfl⟩
    exact ⟨lg, rfl, ⟨u, by rw [show madeEv min ⟨1, name, level, msg, al, attrs⟩ = [] from by unfold madeEv; simp [hnm], List.append_nil]; exact h⟩, fun o => rfl⟩
  · rw [show madeEv min ⟨1, name, level, msg, al, attrs⟩ = [⟨2, 0, false, name, ByteArray.empty, .nil⟩] from by unfold madeEv; simp [hnm]]
    exact (group_some lg min _ u acc name hnm w1 h.1 (by omega) h.2.1).mono (fun e w2 hp => h.post2 hx hp)

end Go.Proofs.YtihhgnbgejjijaaGreatDoor.Va

/- impl.Logger: the walk. -/
namespace Go.Proofs.YtihhgnbgejjijaaGreatDoor.Va
set_option linter.unusedVariables false
set_option linter.unusedSimpArgs false
open Go Go.RowKit

def madeOk (s : GStep) : Prop := 0 ≤ s.act ∧ s.act ≤ 8 ∧ ArgsFine s.args ∧ s.attrs.size ≤ 300000 ∧ s.attrs.wf ∧ (attrsOf none s.attrs).len ≤ 299999 ∧ vSizeAll (attrsOf none s.attrs).full ≤ 700000
theorem madeEv_log (min : Int) (s : GStep) (h0 : s.act ≠ 0) (h1 : s.act ≠ 1) (h8 : s.act ≠ 8) : madeEv min s = LogEv min (lgLevel s) s.msg (if s.act = 3 then attrsTold (attrsOf none s.attrs).full else argsTold s.args) := by
  unfold madeEv LogEv
  rw [if_neg h0, if_neg h1]
  by_cases h : lgLevel s < min
  · rw [if_pos (.inr h), if_pos h]
  · rw [if_neg (by rintro (h' | h'); exact h8 h'; exact h h'), if_neg h]
theorem madeEv_ask (min : Int) (s : GStep) (h8 : s.act = 8) : madeEv min s = [evAsk min s.level] := by
  unfold madeEv lgLevel
  rw [if_neg (by omega), if_neg (by omega), if_pos (.inl h8), if_neg (by omega), if_neg (by omega), if_neg (by omega), if_neg (by omega)]
theorem madeEv_len (min : Int) (s : GStep) : (madeEv min s).length ≤ 2 := by
  unfold madeEv
  (repeat' split) <;> simp

theorem RAnyS.lift {X w : World} {l : List GArg} {A : Option Addr} {len n : Nat} (h : RAnyS (New X) w l A len) (hn : n < X.heap.size) : ∃ P : Nat → Prop, RAnyS P w l A len ∧ ∀ b, P b → n < b := ⟨New X, h, fun _ hb => Nat.lt_of_lt_of_le hn hb⟩
theorem RSS.lift {X w : World} {l : SAttrs} {A : Option Addr} {len n : Nat} (h : RSS (New X) w l A len) (hn : n < X.heap.size) : ∃ P : Nat → Prop, RSS P w l A len ∧ ∀ b, P b → n < b := ⟨New X, h, fun _ hb => Nat.lt_of_lt_of_le hn hb⟩
/-- One round. -/
def LoRnd (min : Int) (w : World) (l : List GStep) (b o : Nat) (s6 s16 : Value) (wr : World) : Prop :=
  ∃ (k : Nat) (rest : List GStep) (acc : List GEv) (lg : Nat) (u : Value), k + rest.length = l.length ∧ s16 = .int .i64 k ∧ s6 = .pointer (some ⟨lg, 0, none⟩) ∧ madeEvs min l = acc ++ madeEvs min rest ∧ LgSt w min lg u acc wr ∧
    RSteps w rest b (o + k * 6) ∧ (∀ s ∈ rest, madeOk s) ∧ acc.length + 2 * rest.length ≤ 700 ∧ w.heap.size < wr.heap.size

set_option maxRecDepth 100000 in
set_option maxHeartbeats 4000000 in
/-- impl.Logger. -/
theorem logger_any (min : Int) (l : List GStep) (w : World) (A : Option Addr) (len cap : Nat) (hl : RStepS w l A len) (hok : ∀ s ∈ l, madeOk s) (hn : l.length ≤ 300) :
    Calls Tryz.prog 35 #[.int .i64 min, .slice A len cap] w (EvsPost (madeEvs min l) w) := by
  obtain ⟨hl0, hl1⟩ := hl
  obtain ⟨Q, hQ⟩ : ∃ Q : Ending → World → Prop, Q = EvsPost (madeEvs min l) w := ⟨_, rfl⟩
  rw [← hQ]
  have HQ := Lib.hid hQ
  have Hl0 := Lib.hid hl0
  have hst : ∃ b o, (0 < len → A = some ⟨b, o, none⟩) ∧ RSteps w l b o := by
    by_cases hz : 0 < len
    · obtain ⟨b, o, e, hr⟩ := hl1 hz
      exact ⟨b, o, fun _ => e, hr⟩
    · have : l = [] := List.length_eq_zero_iff.1 (by omega)
      subst this
      exact ⟨0, 0, fun h => absurd h hz, trivial⟩
  obtain ⟨b, o, hA, hs⟩ := hst
  have HA := Lib.hid hA
  have HS := Lib.hid (And.intro hs hok)
  have HN := Lib.hid hn
  clear hQ hl0 hl1 hA hs hok hn
  go_enter Tryz.func35, Tryz.ntmps35
  go_wp2_with (go_at_call 58; (refine (new_any _ _ _).mono ?_); rintro e w1 ⟨rfl, rfl⟩)
  go_loopw [6, 16] (fun x y wr => LoRnd min w l b o x y wr) (fun _ y _ => len - (intOf y).toNat)
  case atStart =>
    refine ⟨0, l, [], _, .slice none 0 0, by omega, rfl, rfl, rfl, ⟨⟨[], ⟨?_, ?_, World.ownsRow_nil _ _ _ _⟩, rfl⟩, ?_, ?_, by simp [Value.ownBlock], (by repeat' (first | with_reducible assumption | with_reducible exact Below.refl _ _ | with_reducible refine Below.setCell ?_ ?_ _ | with_reducible refine Below.alloc ?_ ?_ _ | with_reducible refine Below.drew ?_ | with_reducible refine below_drewN ?_ _ | omega | (simp; done) | (simp; omega)))⟩, by simpa using HS.out.1, HS.out.2, by have := HN.out; simp; omega, by simp; omega⟩
    · rw [World.cell?_alloc_lt _ _ _ (by simp)]; exact cell_new _ _ _ _ _ _ rfl rfl
    · rw [World.frozen?_alloc_past _ _ _ (by simp)]; exact World.frozen?_alloc_at _ _ _ _ rfl
    · exact cell_new _ _ _ _ _ _ (by simp) rfl
    · simp
  case round =>
    clear HS
    obtain ⟨k, rest, acc, lg, u, hk, rfl, rfl, hval, hst, hrs, hok, hac, hws⟩ := hrel
    have hk' := Hl0.out
    have Hval := Lib.hid hval
    have HST := Lib.hid hst
    have hB := hst.2.2.2.2
    cases rest with
    | nil =>
      have hke : ¬ ((k : Int) < (len : Int)) := by simp at hk; omega
      obtain ⟨xs, hU, hx⟩ := hst.1
      have hc := hU.1
      obtain ⟨A', cap', rfl, hrsp⟩ := revs_of_owns (Q := New w) hU.2.2 hx (fun b hb => Nat.le_of_lt hb.1) (fun b hb => Nat.le_of_lt hb)
      have HR := Lib.hid hrsp
      clear hk hk' hrs hok hU hx hval hst hrsp hac
      go_wp2
      rw [HQ.out]
      exact ⟨A', _, cap', rfl, by rw [Hval.out, show madeEvs min [] = [] from rfl, List.append_nil]; exact HR.out, hB⟩
    | cons s r =>
      have hlt : (k : Int) < (len : Int) := by simp only [List.length_cons] at hk; omega
      have hk0 : (0 : Int) ≤ (k : Int) := by omega
      have hkk : k + 1 + r.length = l.length := by simp only [List.length_cons] at hk; omega
      have hac2 : acc.length + 2 + 2 * r.length ≤ 700 := by simp only [List.length_cons] at hac; omega
      have hkb : k ≤ 300 := by have := HN.out; omega
      have hA := HA.out (by omega)
      subst hA
      have hfine := hok _ (List.mem_cons_self ..)
      have HD := Lib.hid (fun lg2 v w2 (h : LgSt w min lg2 v (acc ++ madeEv min s) w2) => (show LoRnd min w l b o (.pointer (some ⟨lg2, 0, none⟩)) (.int .i64 ((k : Int) + 1)) w2 from
        ⟨k + 1, r, acc ++ madeEv min s, lg2, v, hkk, by push_cast; rfl, rfl, by rw [hval, madeEvs, List.append_assoc], h, by have := hrs.2.2.2.2.2.2; rwa [show o + k * 6 + 6 = o + (k + 1) * 6 by omega] at this, fun x hx => hok x (List.mem_cons_of_mem _ hx), by have := madeEv_len min s; simp only [List.length_append]; omega, h.1.lt⟩))
      obtain ⟨h0, h1, h2, h3, ⟨Aa, la, ca, h4, hca, ha⟩, ⟨At, lt, ct, h5, hat⟩, hr⟩ := hrs
      have hK := keeps_of_below hB
      have h0 := hK.cell h0
      have h1 := hK.cell h1
      have h2 := hK.cell h2
      have h3 := hK.cell h3
      have h4 := hK.cell h4
      have h5 := hK.cell h5
      obtain ⟨act, name, level, msg, args, attrs⟩ := s
      simp only at h0 h1 h2 h3 h4 h5 ha hat
      unfold madeOk at hfine
      simp only at hfine
      obtain ⟨hact0, hact8, hargs, hts, htw, htl, htv⟩ := hfine
      have hbb : b < wr.heap.size := World.block_lt_of_cell? wr _ h0
      have CO := Lib.hid (fun wx (hk : Keeps wr wx) => argsOf_any args wx Aa la ca hargs.1 hargs.2.1 (by have := hargs.2.2.2.1; omega) ((ha.keep hK).keep hk))
      have CF := Lib.hid (fun wx (hk : Keeps wr wx) => attrsOf_fit none attrs wx At lt ct hts htw ((hat.keep hK).keep hk))
      unfold ArgsPost at CO
      unfold AttrsFit at CF
      have hown : ∀ g, u.ownBlock = some g → g < wr.heap.size := fun g hg => (hst.1.own g hg).2
      have HX := Lib.hid (fun (wx : World) (hx : wr.heap.size < wx.heap.size) => (show wr.heap.size < wx.heap.size ∧ wr.heap.size ≠ w.heap.size ∧ some wr.heap.size ≠ u.ownBlock from ⟨hx, by omega, fun e => by have := hown _ e.symm; omega⟩))
      have HP := Lib.hid (fun (P : Nat → Prop) (hP : ∀ b, P b → wr.heap.size < b) (wx : World) => (show ∀ b, P b → b < wx.heap.size → b ≠ w.heap.size ∧ some b ≠ u.ownBlock from fun b hb _ => ⟨by have := hP b hb; omega, fun e => by have := hown _ e.symm; have := hP b hb; omega⟩))
      have hn4 : acc.length < 299998 := by omega
      have HF := Lib.hid (And.intro hargs (And.intro htl htv))
      have HNA := Lib.hid hn4
      clear hk hk' hr hK ha hat hca hval hok hac hB Hval hst hargs hts htw htl htv hn4 hown hac2
      have hcase : act = 0 ∨ act = 1 ∨ act = 2 ∨ act = 3 ∨ act = 4 ∨ act = 5 ∨ act = 6 ∨ act = 7 ∨ act = 8 := by omega
      clear hact0 hact8
      rcases hcase with rfl | rfl | rfl | rfl | rfl | rfl | rfl | rfl | rfl
      · have CC := Lib.hid (fun wx (hb : Below wr.heap.size wr wx) (hx : wr.heap.size < wx.heap.size) (P : Nat → Prop) A1 l1 c1 (hP : ∀ b, P b → wr.heap.size < b) (ha : RAnyS P wx args A1 l1) (hlc : l1 ≤ c1) => with_st (bx := wr.heap.size) args A1 l1 c1 (HST.out.below hb) (HX.out wx hx) HNA.out ha hlc HF.out.1 name level msg attrs (HP.out P hP wx))
        go_wp2_with (first
          | (go_at_call 60; (refine (CO.out _ (keeps_of_below (by repeat' (first | with_reducible assumption | with_reducible exact Below.refl _ _ | with_reducible refine Below.setCell ?_ ?_ _ | with_reducible refine Below.alloc ?_ ?_ _ | with_reducible refine Below.drew ?_ | with_reducible refine below_drewN ?_ _ | omega | (simp; done) | (simp; omega))))).mono ?_); rintro e w1 ⟨A1, l1, c1, rfl, hc1, ha1, hb1⟩; have hs1 := hb1.size; simp only [World.size_alloc] at hs1; have hl1 : wr.heap.size < w1.heap.size := (by omega); obtain ⟨P1, ha1, hP1⟩ := ha1.lift (n := wr.heap.size) (by simp); have HA1 := Lib.hid (And.intro hc1 (And.intro ha1 hP1)); obtain ⟨hcx1, hfx1⟩ := bcell hb1; have HB1 := Lib.hid (show Below wr.heap.size wr w1 from ((Below.refl _ _).alloc (Nat.le_refl _) _).trans (hb1.mono (by simp))); clear hb1 ha1 hc1 hP1)
          | (go_at_call 81; (refine (CC.out _ HB1.out hl1 P1 _ _ _ HA1.out.2.2 HA1.out.2.1 HA1.out.1).mono ?_); rintro e w2 ⟨lg2, rfl, h2⟩; have H2 := Lib.hid h2; clear h2))
        obtain ⟨⟨v2, hS2⟩, -⟩ := H2.out
        exact ⟨HD.out _ _ _ hS2, by simp only [intOf]; omega⟩
      · have CC := Lib.hid (fun wx (hb : Below wr.heap.size wr wx) (hx : wr.heap.size < wx.heap.size) => group_st (bx := wr.heap.size) name (HST.out.below hb) (HX.out wx hx) HNA.out level msg args attrs)
        go_wp2_with (first
          | (go_at_call 60; (refine (CO.out _ (keeps_of_below (by repeat' (first | with_reducible assumption | with_reducible exact Below.refl _ _ | with_reducible refine Below.setCell ?_ ?_ _ | with_reducible refine Below.alloc ?_ ?_ _ | with_reducible refine Below.drew ?_ | with_reducible refine below_drewN ?_ _ | omega | (simp; done) | (simp; omega))))).mono ?_); rintro e w1 ⟨A1, l1, c1, rfl, hc1, ha1, hb1⟩; have hs1 := hb1.size; simp only [World.size_alloc] at hs1; have hl1 : wr.heap.size < w1.heap.size := (by omega); obtain ⟨P1, ha1, hP1⟩ := ha1.lift (n := wr.heap.size) (by simp); have HA1 := Lib.hid (And.intro hc1 (And.intro ha1 hP1)); obtain ⟨hcx1, hfx1⟩ := bcell hb1; have HB1 := Lib.hid (show Below wr.heap.size wr w1 from ((Below.refl _ _).alloc (Nat.le_refl _) _).trans (hb1.mono (by simp))); clear hb1 ha1 hc1 hP1)
          | (go_at_call 82; (refine (CC.out _ HB1.out hl1).mono ?_); rintro e w2 ⟨lg2, rfl, h2⟩; have H2 := Lib.hid h2; clear h2))
        obtain ⟨⟨v2, hS2⟩, -⟩ := H2.out
        exact ⟨HD.out _ _ _ hS2, by simp only [intOf]; omega⟩
      · have CC := Lib.hid (fun wx (hb : Below wr.heap.size wr wx) (hx : wr.heap.size < wx.heap.size) (P : Nat → Prop) A1 l1 c1 (hP : ∀ b, P b → wr.heap.size < b) (ha : RAnyS P wx args A1 l1) (hlc : l1 ≤ c1) => Log_any _ _ _ _ _ _ _ ((log_st (bx := wr.heap.size) level msg args A1 l1 c1 .nilIface (.inl rfl) (HST.out.below hb) (HX.out wx hx) HNA.out ha hlc HF.out.1 (HP.out P hP wx)).mono (fun e w2 h => ⟨h.1, h⟩)))
        rw [(madeEv_log min ⟨2, name, level, msg, args, attrs⟩ (by simp) (by simp) (by simp)).trans (show _ = LogEv min level msg (argsTold args) from rfl)] at HD
        go_wp2_with (first
          | (go_at_call 60; (refine (CO.out _ (keeps_of_below (by repeat' (first | with_reducible assumption | with_reducible exact Below.refl _ _ | with_reducible refine Below.setCell ?_ ?_ _ | with_reducible refine Below.alloc ?_ ?_ _ | with_reducible refine Below.drew ?_ | with_reducible refine below_drewN ?_ _ | omega | (simp; done) | (simp; omega))))).mono ?_); rintro e w1 ⟨A1, l1, c1, rfl, hc1, ha1, hb1⟩; have hs1 := hb1.size; simp only [World.size_alloc] at hs1; have hl1 : wr.heap.size < w1.heap.size := (by omega); obtain ⟨P1, ha1, hP1⟩ := ha1.lift (n := wr.heap.size) (by simp); have HA1 := Lib.hid (And.intro hc1 (And.intro ha1 hP1)); obtain ⟨hcx1, hfx1⟩ := bcell hb1; have HB1 := Lib.hid (show Below wr.heap.size wr w1 from ((Below.refl _ _).alloc (Nat.le_refl _) _).trans (hb1.mono (by simp))); clear hb1 ha1 hc1 hP1)
          | (go_at_call 59; (refine (CC.out _ HB1.out hl1 P1 _ _ _ HA1.out.2.2 HA1.out.2.1 HA1.out.1).mono ?_); rintro e w2 ⟨rfl, h2⟩; have H2 := Lib.hid h2; clear h2))
        obtain ⟨⟨v2, hS2⟩, -⟩ := H2.out
        exact ⟨HD.out _ _ _ hS2, by simp only [intOf]; omega⟩
      · have CC := Lib.hid (fun wx (hb : Below wr.heap.size wr wx) (hx : wr.heap.size < wx.heap.size) (P : Nat → Prop) A1 l1 c1 (hP : ∀ b, P b → wr.heap.size < b) (ha : RSS P wx (attrsOf none attrs) A1 l1) (hlc : l1 ≤ c1) => LogA_any _ _ _ _ _ _ _ ((logA_st (bx := wr.heap.size) level msg _ A1 l1 c1 .nilIface (.inl rfl) (HST.out.below hb) (HX.out wx hx) HNA.out ha hlc HF.out.2.1 HF.out.2.2 (HP.out P hP wx)).mono (fun e w2 h => ⟨h.1, h⟩)))
        rw [(madeEv_log min ⟨3, name, level, msg, args, attrs⟩ (by simp) (by simp) (by simp)).trans (show _ = LogEv min level msg (attrsTold (attrsOf none attrs).full) from rfl)] at HD
        go_wp2_with (first
          | (go_at_call 60; (refine (CO.out _ (keeps_of_below (by repeat' (first | with_reducible assumption | with_reducible exact Below.refl _ _ | with_reducible refine Below.setCell ?_ ?_ _ | with_reducible refine Below.alloc ?_ ?_ _ | with_reducible refine Below.drew ?_ | with_reducible refine below_drewN ?_ _ | omega | (simp; done) | (simp; omega))))).mono ?_); rintro e w1 ⟨A1, l1, c1, rfl, hc1, ha1, hb1⟩; have hs1 := hb1.size; simp only [World.size_alloc] at hs1; have hl1 : wr.heap.size < w1.heap.size := (by omega); obtain ⟨P1, ha1, hP1⟩ := ha1.lift (n := wr.heap.size) (by simp); have HA1 := Lib.hid (And.intro hc1 (And.intro ha1 hP1)); obtain ⟨hcx1, hfx1⟩ := bcell hb1; have HB1 := Lib.hid (show Below wr.heap.size wr w1 from ((Below.refl _ _).alloc (Nat.le_refl _) _).trans (hb1.mono (by simp))); clear hb1 ha1 hc1 hP1))
        go_region_held_law (fun w' => w'.cell? ⟨wr.heap.size, 0, none⟩ = some (.int .i64 3) ∧ w'.cell? ⟨wr.heap.size, 1, none⟩ = some (.string name) ∧ w'.cell? ⟨wr.heap.size, 2, none⟩ = some (.int .i64 level) ∧ w'.cell? ⟨wr.heap.size, 3, none⟩ = some (.string msg) ∧ w'.cell? ⟨wr.heap.size, 4, none⟩ = some (.slice Aa la ca) ∧ w'.cell? ⟨wr.heap.size, 5, none⟩ = some (.slice At lt ct)) (first | (obtain ⟨s0, s1, s2, s3, s4, s5⟩ := (show w3.cell? ⟨wr.heap.size, 0, none⟩ = some (.int .i64 3) ∧ w3.cell? ⟨wr.heap.size, 1, none⟩ = some (.string name) ∧ w3.cell? ⟨wr.heap.size, 2, none⟩ = some (.int .i64 level) ∧ w3.cell? ⟨wr.heap.size, 3, none⟩ = some (.string msg) ∧ w3.cell? ⟨wr.heap.size, 4, none⟩ = some (.slice Aa la ca) ∧ w3.cell? ⟨wr.heap.size, 5, none⟩ = some (.slice At lt ct) from by assumption); exact ⟨(hd2 _).trans s0, (hd2 _).trans s1, (hd2 _).trans s2, (hd2 _).trans s3, (hd2 _).trans s4, (hd2 _).trans s5⟩) | (obtain ⟨s0, s1, s2, s3, s4, s5⟩ := (show w1.drew.cell? ⟨wr.heap.size, 0, none⟩ = some (.int .i64 3) ∧ w1.drew.cell? ⟨wr.heap.size, 1, none⟩ = some (.string name) ∧ w1.drew.cell? ⟨wr.heap.size, 2, none⟩ = some (.int .i64 level) ∧ w1.drew.cell? ⟨wr.heap.size, 3, none⟩ = some (.string msg) ∧ w1.drew.cell? ⟨wr.heap.size, 4, none⟩ = some (.slice Aa la ca) ∧ w1.drew.cell? ⟨wr.heap.size, 5, none⟩ = some (.slice At lt ct) from by assumption); exact ⟨(hc3 _).trans s0, (hc3 _).trans s1, (hc3 _).trans s2, (hc3 _).trans s3, (hc3 _).trans s4, (hc3 _).trans s5⟩) | go_keep) (first
          | (go_at_call 67; refine (CF.out _ (keeps_of_below HB1.out.drew)).mono ?_; rintro e w3 ⟨A3, l3, c3, rfl, hz3, ha3, hb3⟩; have hs3 := hb3.size; simp at hs3; have hl3 : wr.heap.size < w3.heap.size := (by omega); obtain ⟨P3, ha3, hP3⟩ := ha3.lift (n := wr.heap.size) (by simp; omega); have HA3 := Lib.hid (And.intro hz3 (And.intro ha3 hP3)); have hc3 : ∀ o', w3.cell? ⟨wr.heap.size, o', none⟩ = _ := (fun o' => (bcell hb3).1 _ _ (by simp; omega)); have HB3 := Lib.hid (keeps_below HB1.out.drew hb3); clear hb3 ha3 hz3 hP3)
          | (go_at_call 83; refine (CC.out _ HB3.out hl3 P3 _ _ _ HA3.out.2.2 HA3.out.2.1 HA3.out.1).mono ?_; rintro e w2 ⟨rfl, h2⟩; have hd2 := h2.2; have H2 := Lib.hid h2; clear h2))
        try simp only [Act.put, List.getElem_toArray, List.getElem_cons_succ, List.getElem_cons_zero, List.setIfInBounds_toArray, List.set_cons_zero, List.set_cons_succ]
        go_wp2
        obtain ⟨⟨v2, hS2⟩, -⟩ := H2.out
        exact ⟨HD.out _ _ _ hS2, by simp only [intOf]; omega⟩
      · have CC := Lib.hid (fun wx (hb : Below wr.heap.size wr wx) (hx : wr.heap.size < wx.heap.size) (P : Nat → Prop) A1 l1 c1 (hP : ∀ b, P b → wr.heap.size < b) (ha : RAnyS P wx args A1 l1) (hlc : l1 ≤ c1) => Debug_any _ _ _ _ _ ((log_st (bx := wr.heap.size) (-4) msg args A1 l1 c1 (.iface 9 (.string bgText)) (.inr ⟨_, rfl⟩) (HST.out.below hb) (HX.out wx hx) HNA.out ha hlc HF.out.1 (HP.out P hP wx)).mono (fun e w2 h => ⟨h.1, h⟩)))
        rw [(madeEv_log min ⟨4, name, level, msg, args, attrs⟩ (by simp) (by simp) (by simp)).trans (show _ = LogEv min (-4) msg (argsTold args) from rfl)] at HD
        go_wp2_with (first
          | (go_at_call 60; (refine (CO.out _ (keeps_of_below (by repeat' (first | with_reducible assumption | with_reducible exact Below.refl _ _ | with_reducible refine Below.setCell ?_ ?_ _ | with_reducible refine Below.alloc ?_ ?_ _ | with_reducible refine Below.drew ?_ | with_reducible refine below_drewN ?_ _ | omega | (simp; done) | (simp; omega))))).mono ?_); rintro e w1 ⟨A1, l1, c1, rfl, hc1, ha1, hb1⟩; have hs1 := hb1.size; simp only [World.size_alloc] at hs1; have hl1 : wr.heap.size < w1.heap.size := (by omega); obtain ⟨P1, ha1, hP1⟩ := ha1.lift (n := wr.heap.size) (by simp); have HA1 := Lib.hid (And.intro hc1 (And.intro ha1 hP1)); obtain ⟨hcx1, hfx1⟩ := bcell hb1; have HB1 := Lib.hid (show Below wr.heap.size wr w1 from ((Below.refl _ _).alloc (Nat.le_refl _) _).trans (hb1.mono (by simp))); clear hb1 ha1 hc1 hP1)
          | (go_at_call 84; (refine (CC.out _ HB1.out hl1 P1 _ _ _ HA1.out.2.2 HA1.out.2.1 HA1.out.1).mono ?_); rintro e w2 ⟨rfl, h2⟩; have H2 := Lib.hid h2; clear h2))
        obtain ⟨⟨v2, hS2⟩, -⟩ := H2.out
        exact ⟨HD.out _ _ _ hS2, by simp only [intOf]; omega⟩
      · have CC := Lib.hid (fun wx (hb : Below wr.heap.size wr wx) (hx : wr.heap.size < wx.heap.size) (P : Nat → Prop) A1 l1 c1 (hP : ∀ b, P b → wr.heap.size < b) (ha : RAnyS P wx args A1 l1) (hlc : l1 ≤ c1) => Info_any _ _ _ _ _ ((log_st (bx := wr.heap.size) 0 msg args A1 l1 c1 (.iface 9 (.string bgText)) (.inr ⟨_, rfl⟩) (HST.out.below hb) (HX.out wx hx) HNA.out ha hlc HF.out.1 (HP.out P hP wx)).mono (fun e w2 h => ⟨h.1, h⟩)))
        rw [(madeEv_log min ⟨5, name, level, msg, args, attrs⟩ (by simp) (by simp) (by simp)).trans (show _ = LogEv min 0 msg (argsTold args) from rfl)] at HD
        go_wp2_with (first
          | (go_at_call 60; (refine (CO.out _ (keeps_of_below (by repeat' (first | with_reducible assumption | with_reducible exact Below.refl _ _ | with_reducible refine Below.setCell ?_ ?_ _ | with_reducible refine Below.alloc ?_ ?_ _ | with_reducible refine Below.drew ?_ | with_reducible refine below_drewN ?_ _ | omega | (simp; done) | (simp; omega))))).mono ?_); rintro e w1 ⟨A1, l1, c1, rfl, hc1, ha1, hb1⟩; have hs1 := hb1.size; simp only [World.size_alloc] at hs1; have hl1 : wr.heap.size < w1.heap.size := (by omega); obtain ⟨P1, ha1, hP1⟩ := ha1.lift (n := wr.heap.size) (by simp); have HA1 := Lib.hid (And.intro hc1 (And.intro ha1 hP1)); obtain ⟨hcx1, hfx1⟩ := bcell hb1; have HB1 := Lib.hid (show Below wr.heap.size wr w1 from ((Below.refl _ _).alloc (Nat.le_refl _) _).trans (hb1.mono (by simp))); clear hb1 ha1 hc1 hP1)
          | (go_at_call 85; (refine (CC.out _ HB1.out hl1 P1 _ _ _ HA1.out.2.2 HA1.out.2.1 HA1.out.1).mono ?_); rintro e w2 ⟨rfl, h2⟩; have H2 := Lib.hid h2; clear h2))
        obtain ⟨⟨v2, hS2⟩, -⟩ := H2.out
        exact ⟨HD.out _ _ _ hS2, by simp only [intOf]; omega⟩
      · have CC := Lib.hid (fun wx (hb : Below wr.heap.size wr wx) (hx : wr.heap.size < wx.heap.size) (P : Nat → Prop) A1 l1 c1 (hP : ∀ b, P b → wr.heap.size < b) (ha : RAnyS P wx args A1 l1) (hlc : l1 ≤ c1) => Warn_any _ _ _ _ _ ((log_st (bx := wr.heap.size) 4 msg args A1 l1 c1 (.iface 9 (.string bgText)) (.inr ⟨_, rfl⟩) (HST.out.below hb) (HX.out wx hx) HNA.out ha hlc HF.out.1 (HP.out P hP wx)).mono (fun e w2 h => ⟨h.1, h⟩)))
        rw [(madeEv_log min ⟨6, name, level, msg, args, attrs⟩ (by simp) (by simp) (by simp)).trans (show _ = LogEv min 4 msg (argsTold args) from rfl)] at HD
        go_wp2_with (first
          | (go_at_call 60; (refine (CO.out _ (keeps_of_below (by repeat' (first | with_reducible assumption | with_reducible exact Below.refl _ _ | with_reducible refine Below.setCell ?_ ?_ _ | with_reducible refine Below.alloc ?_ ?_ _ | with_reducible refine Below.drew ?_ | with_reducible refine below_drewN ?_ _ | omega | (simp; done) | (simp; omega))))).mono ?_); rintro e w1 ⟨A1, l1, c1, rfl, hc1, ha1, hb1⟩; have hs1 := hb1.size; simp only [World.size_alloc] at hs1; have hl1 : wr.heap.size < w1.heap.size := (by omega); obtain ⟨P1, ha1, hP1⟩ := ha1.lift (n := wr.heap.size) (by simp); have HA1 := Lib.hid (And.intro hc1 (And.intro ha1 hP1)); obtain ⟨hcx1, hfx1⟩ := bcell hb1; have HB1 := Lib.hid (show Below wr.heap.size wr w1 from ((Below.refl _ _).alloc (Nat.le_refl _) _).trans (hb1.mono (by simp))); clear hb1 ha1 hc1 hP1)
          | (go_at_call 86; (refine (CC.out _ HB1.out hl1 P1 _ _ _ HA1.out.2.2 HA1.out.2.1 HA1.out.1).mono ?_); rintro e w2 ⟨rfl, h2⟩; have H2 := Lib.hid h2; clear h2))
        obtain ⟨⟨v2, hS2⟩, -⟩ := H2.out
        exact ⟨HD.out _ _ _ hS2, by simp only [intOf]; omega⟩
      · have CC := Lib.hid (fun wx (hb : Below wr.heap.size wr wx) (hx : wr.heap.size < wx.heap.size) (P : Nat → Prop) A1 l1 c1 (hP : ∀ b, P b → wr.heap.size < b) (ha : RAnyS P wx args A1 l1) (hlc : l1 ≤ c1) => Error_any _ _ _ _ _ ((log_st (bx := wr.heap.size) 8 msg args A1 l1 c1 (.iface 9 (.string bgText)) (.inr ⟨_, rfl⟩) (HST.out.below hb) (HX.out wx hx) HNA.out ha hlc HF.out.1 (HP.out P hP wx)).mono (fun e w2 h => ⟨h.1, h⟩)))
        rw [(madeEv_log min ⟨7, name, level, msg, args, attrs⟩ (by simp) (by simp) (by simp)).trans (show _ = LogEv min 8 msg (argsTold args) from rfl)] at HD
        go_wp2_with (first
          | (go_at_call 60; (refine (CO.out _ (keeps_of_below (by repeat' (first | with_reducible assumption | with_reducible exact Below.refl _ _ | with_reducible refine Below.setCell ?_ ?_ _ | with_reducible refine Below.alloc ?_ ?_ _ | with_reducible refine Below.drew ?_ | with_reducible refine below_drewN ?_ _ | omega | (simp; done) | (simp; omega))))).mono ?_); rintro e w1 ⟨A1, l1, c1, rfl, hc1, ha1, hb1⟩; have hs1 := hb1.size; simp only [World.size_alloc] at hs1; have hl1 : wr.heap.size < w1.heap.size := (by omega); obtain ⟨P1, ha1, hP1⟩ := ha1.lift (n := wr.heap.size) (by simp); have HA1 := Lib.hid (And.intro hc1 (And.intro ha1 hP1)); obtain ⟨hcx1, hfx1⟩ := bcell hb1; have HB1 := Lib.hid (show Below wr.heap.size wr w1 from ((Below.refl _ _).alloc (Nat.le_refl _) _).trans (hb1.mono (by simp))); clear hb1 ha1 hc1 hP1)
          | (go_at_call 87; (refine (CC.out _ HB1.out hl1 P1 _ _ _ HA1.out.2.2 HA1.out.2.1 HA1.out.1).mono ?_); rintro e w2 ⟨rfl, h2⟩; have H2 := Lib.hid h2; clear h2))
        obtain ⟨⟨v2, hS2⟩, -⟩ := H2.out
        exact ⟨HD.out _ _ _ hS2, by simp only [intOf]; omega⟩
      · have CC := Lib.hid (fun wx (hb : Below wr.heap.size wr wx) (hx : wr.heap.size < wx.heap.size) => enabled_st (bx := wr.heap.size) level (HST.out.below hb) (HX.out wx hx) HNA.out)
        rw [madeEv_ask min ⟨8, name, level, msg, args, attrs⟩ rfl] at HD
        go_wp2_with (first
          | (go_at_call 60; (refine (CO.out _ (keeps_of_below (by repeat' (first | with_reducible assumption | with_reducible exact Below.refl _ _ | with_reducible refine Below.setCell ?_ ?_ _ | with_reducible refine Below.alloc ?_ ?_ _ | with_reducible refine Below.drew ?_ | with_reducible refine below_drewN ?_ _ | omega | (simp; done) | (simp; omega))))).mono ?_); rintro e w1 ⟨A1, l1, c1, rfl, hc1, ha1, hb1⟩; have hs1 := hb1.size; simp only [World.size_alloc] at hs1; have hl1 : wr.heap.size < w1.heap.size := (by omega); obtain ⟨P1, ha1, hP1⟩ := ha1.lift (n := wr.heap.size) (by simp); have HA1 := Lib.hid (And.intro hc1 (And.intro ha1 hP1)); obtain ⟨hcx1, hfx1⟩ := bcell hb1; have HB1 := Lib.hid (show Below wr.heap.size wr w1 from ((Below.refl _ _).alloc (Nat.le_refl _) _).trans (hb1.mono (by simp))); clear hb1 ha1 hc1 hP1)
          | (go_at_call 88; (refine (CC.out _ HB1.out hl1).mono ?_); rintro e w2 ⟨rfl, h2⟩; have H2 := Lib.hid h2; clear h2))
        obtain ⟨⟨v2, hS2⟩, -⟩ := H2.out
        exact ⟨HD.out _ _ _ hS2, by simp only [intOf]; omega⟩

end Go.Proofs.YtihhgnbgejjijaaGreatDoor.Va
