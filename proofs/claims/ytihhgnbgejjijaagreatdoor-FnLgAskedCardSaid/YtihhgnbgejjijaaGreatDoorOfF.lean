/- impl.attrsOf: what it hands back has room for what it holds. -/
import Derived.Test.YtihhgnbgejjijaaGreatDoorOfD
namespace Go.Proofs.YtihhgnbgejjijaaGreatDoor.Va
set_option linter.unusedVariables false
set_option linter.unusedSimpArgs false
open Go Go.RowKit

theorem own_fit {w : World} {base : Nat} {e : TypeId} {size : Nat} {A : Option Addr} {n cap m : Nat} {xs : List Value} (h : w.ownsRow base e size (.slice A n cap) m xs) : n ≤ cap := by
  rcases h.2 with ⟨h, _⟩ | ⟨g, c, cur, h, _, _, hn, _⟩
  · injection h with _ h1 h2; omega
  · injection h with _ h1 h2; omega
def AttrsFit (l : SAttrs) (w : World) (e : Ending) (w' : World) : Prop := ∃ A len cap, e = .returned (.slice A len cap) ∧ len ≤ cap ∧ RSS (New w) w' l A len ∧ Below w.heap.size w w'
def ValF (c : Option Addr) (l : GAttrs) : Prop := ∀ (w : World) (A : Option Addr) (len cap : Nat), l.size ≤ 300000 → l.wf → RS w l A len →
  Calls Tryz.prog 67 #[.slice A len cap, .pointer c] w (AttrsFit (attrsOf c l) w)

set_option maxRecDepth 100000 in
set_option maxHeartbeats 400000 in
theorem attrs_fit (c : Option Addr) (l : GAttrs) (ih : ∀ d : GVal, d.size ≤ l.size → ValV c d) : ValF c l := by
  intro w A len cap hsz hwf hl
  obtain ⟨hl0, hl1⟩ := hl
  obtain ⟨i0, hi, hz0, hz1, hz2⟩ := info_parts infoSAttr
  by_cases hz : len = 0
  · subst hz
    have : l = .nil := by cases l with | nil => rfl | cons => simp [GAttrs.len] at hl0
    subst this
    clear hl0 hl1
    go_enter Tryz.func67, Tryz.ntmps67
    go_wp2
    go_loopw [5, 10] (fun a c wr => a = .slice none 0 0 ∧ c = .int .i64 0 ∧ wr = w) (fun _ _ _ => 0)
    case atStart => exact ⟨rfl, rfl, rfl⟩
    case round =>
      obtain ⟨rfl, rfl, rfl⟩ := hrel
      go_wp2
      go_ret
      exact ⟨none, 0, 0, rfl, Nat.le_refl _, by rw [attrsOf_nil]; exact RSS.nil_ _ _ _, Below.refl _ _⟩
  · obtain ⟨b, o, rfl, hr⟩ := hl1 (by omega)
    clear hl1
    have Hl0 := Lib.hid hl0
    clear hl0
    go_enter Tryz.func67, Tryz.ntmps67
    go_wp2
    go_loopw [5, 10] (fun a q wr => OfRnd c w l b o a q wr) (fun _ q _ => len - (intOf q).toNat)
    case atStart => exact ⟨0, l, .nil, 0, [], by omega, rfl, World.ownsRow_nil _ _ _ _, rfl, rfl, Nat.le_refl _, hr, Nat.le_refl _, hwf, Below.refl _ _⟩
    case round =>
      obtain ⟨k, rest, acc, n, xs, hk, rfl, hown, hx, hval, hacc, hrs, hrz, hrw, hB⟩ := hrel
      have hk' := Hl0.out
      have HX := Lib.hid hx
      have HO := Lib.hid hown
      have Hval := Lib.hid hval
      have hn : n = acc.len := by have h1 := hown.1; have h2 := RSX.len acc xs hx; omega
      have hll := len_le_size l
      have hsize := hB.size
      cases rest with
      | nil =>
        have hke : ¬ ((k : Int) < (len : Int)) := by simp [GAttrs.len] at hk; omega
        obtain ⟨A', cap', rfl, hrsp⟩ := rss_of_owns (Q := New w) hown hx (fun b hb => hb.1) (fun b hb => hb)
        have HR := Lib.hid hrsp
        have HFT := Lib.hid (own_fit hown)
        clear hown hx hval hk hk' hrsp hrs hn hrw
        go_wp2
        go_ret
        refine ⟨A', _, cap', rfl, HFT.out, ?_, hB⟩
        rw [Hval.out, attrsOf_nil, sappend_nil]; exact HR.out
      | cons key v r =>
        have hlt : k < len := by simp only [GAttrs.len] at hk; omega
        have hkk : k + 1 + r.len = l.len := by simp only [GAttrs.len] at hk; omega
        have hvs : v.size + r.size ≤ l.size := by simpa only [GAttrs.size] using hrz
        have hrle : r.size ≤ l.size := by omega
        have hvle : v.size ≤ 300000 := by omega
        have Hih := Lib.hid (ih v (by omega))
        unfold GAttrs.wf at hrw
        have Hvw := Lib.hid hrw.2.1
        have Hrw := Lib.hid hrw.2.2
        unfold RAs at hrs
        obtain ⟨hkey, hv, hr'⟩ := hrs
        have Hr := Lib.hid hr'
        have hv := hv.keep (keeps_of_below hB)
        have hkey := (keeps_of_below hB).cell hkey
        have hbb : b < wr.heap.size := World.block_lt_of_cell? wr _ hkey
        have Hend := Lib.hid (Hval.out.trans (congrArg (SAttrs.append acc) (attrsOf_cons c key v r)))
        obtain ⟨vk, vn, vs, vt, vl⟩ := v
        unfold RVal at hv
        obtain ⟨c0, c1, c2, c3, c4, c5, A', len', cap', c6, hlen', hA'⟩ := hv
        have HS := Lib.hid (show RS wr vl A' len' from ⟨hlen', hA'⟩)
        have hkn : n + 1 ≤ 300000 := by omega
        have HLT := Lib.hid (fun g hg => (hown.lt g hg).2)
        clear hlen' hA' hr' hr ih hown hx hval hk hk' hrz hrw hvs Hval hn
        go_wp2
        go_region_held_law (fun w' => w'.cell? ⟨wr.heap.size, 0, none⟩ = some (.string key) ∧ w'.cell? ⟨wr.heap.size, 1, none⟩ = some (.int .i64 vk) ∧ w'.cell? ⟨wr.heap.size, 2, none⟩ = some (.int .u64 vn) ∧ w'.cell? ⟨wr.heap.size, 3, none⟩ = some (.string vs) ∧ w'.cell? ⟨wr.heap.size, 4, none⟩ = some (.int .i64 vt.sec) ∧ w'.cell? ⟨wr.heap.size, 5, none⟩ = some (.int .i64 vt.nsec) ∧ w'.cell? ⟨wr.heap.size, 6, none⟩ = some (.int .i64 vt.off) ∧ w'.cell? ⟨wr.heap.size, 7, none⟩ = some (.slice A' len' cap')) (go_keep) (first
          | (refine step_append_lies _ rfl (.tmp 14) (.tmp 22) 113 rfl w.heap.size 111 i0 _ 3 40 Tryz.underlying113 hi hz0 hz1 hz2 rfl (by decide) _ n xs rfl (HO2.out.alloc _) ⟨_, 0, none⟩ 1 1 [.string key, x2, y2] rfl rfl (by intro j u hj; exact cells_new _ _ _ _ (by simp) j u hj) H1.out (by decide) (by unfold maxLen; omega) (by omega) (by simp; omega) _ rfl ?_; intro g cap3 w3 hown3 hgrow3 hat3 hlt3; have hc3 : ∀ o', w3.cell? ⟨wr.heap.size, o', none⟩ = w2.cell? ⟨wr.heap.size, o', none⟩ := (fun o' => (World.cell?_of_block (a := ⟨wr.heap.size, o', none⟩) (hgrow3.block wr.heap.size (by simp; omega) (fun e => by have := HLT.out _ e.symm; omega))).trans (World.cell?_of_block (a := ⟨wr.heap.size, o', none⟩) (Below.heap_alloc w2 _ _ hl2))); have HO3 := Lib.hid hown3; have HG3 := Lib.hid hgrow3; have HA3 := Lib.hid hat3; clear hown3 hgrow3 hat3 hlt3)
          | (go_at_call 92; refine (Hih.out _ _ _ _ hvle Hvw.out (HS.out.keep (keeps_of_below (by repeat' (first | with_reducible assumption | with_reducible exact Below.refl _ _ | with_reducible refine Below.setCell ?_ ?_ _ | with_reducible refine Below.alloc ?_ ?_ _ | with_reducible refine Below.drew ?_ | with_reducible refine below_drewN ?_ _ | omega | (simp; done) | (simp; omega)))))).mono ?_; rintro e w2 ⟨x2, y2, rfl, hr2, hb2⟩; have HR2 := Lib.hid hr2; have HB2 := Lib.hid (keeps_below (show Below w.heap.size w _ from (by repeat' (first | with_reducible assumption | with_reducible exact Below.refl _ _ | with_reducible refine Below.setCell ?_ ?_ _ | with_reducible refine Below.alloc ?_ ?_ _ | with_reducible refine Below.drew ?_ | with_reducible refine below_drewN ?_ _ | omega | (simp; done) | (simp; omega)))) hb2); have HBr := Lib.hid (keeps_below (show Below wr.heap.size wr _ from (by repeat' (first | with_reducible assumption | with_reducible exact Below.refl _ _ | with_reducible refine Below.setCell ?_ ?_ _ | with_reducible refine Below.alloc ?_ ?_ _ | with_reducible refine Below.drew ?_ | with_reducible refine below_drewN ?_ _ | omega | (simp; done) | (simp; omega)))) hb2); obtain ⟨hc2, hf2⟩ := bcell hb2; have hs2 := hb2.size; simp at hs2; have hl2 : wr.heap.size < w2.heap.size := (by omega); have HO2 := Lib.hid (own_below ((HO.out.alloc _).drew) hb2); have H1 := Lib.hid (rsv_ones key hr2); clear hr2))
        go_wp2
        refine ⟨⟨k + 1, r, SAttrs.snoc acc key (valueOf c (.mk vk vn vs vt vl)), n + 1, _, hkk, by push_cast; rfl, HO3.out, ?_, ?_, ?_, ?_, hrle, Hrw.out, ?_⟩, ?_⟩
        · exact rsx_snoc (RSX.turn (keepsOn_of_below HBr.out _) (fun _ h _ => h) _ _ HX.out) HR2.out (fun g hg => by have := HLT.out g hg; simp; omega) (by simp; omega) (fun P => (KeepsOn.refl P _).alloc _) (by simp) HG3.out (HA3.out.elim (fun h => .inl h.symm) (fun h => .inr (by rw [← h]; rfl)))
        · rw [ssnoc_append]; exact Hend.out
        · rw [slen_snoc]; omega
        · have := Hr.out
          rwa [show o + (k + 1) * 8 = o + k * 8 + 8 by omega]
        · exact Below.grown (HB2.out.alloc (by omega) _) HG3.out (by simp; omega) (fun g hg => (HO.out.lt g hg).1)
        · simp only [intOf]; omega

theorem attrsOf_fit (c : Option Addr) (l : GAttrs) : ValF c l := attrs_fit c l (fun d _ => valueOf_any c d)

end Go.Proofs.YtihhgnbgejjijaaGreatDoor.Va
