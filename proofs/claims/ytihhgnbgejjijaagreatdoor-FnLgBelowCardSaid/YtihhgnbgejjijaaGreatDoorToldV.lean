/- What impl.attrsTold tells of a list of attributes of package slog. -/
import Derived.Test.YtihhgnbgejjijaaGreatDoorTold
import Derived.Deep.AppendLies
import Derived.Deep.RegionHeldLaw
import Derived.Lib.BufferRead
import Derived.Deep.RegionHeld3
namespace Go.Proofs.YtihhgnbgejjijaaGreatDoor.Va
set_option linter.unusedVariables false
set_option linter.unusedSimpArgs false
open Go Go.RowKit

/- How many values a value of package slog holds, itself too. -/
mutual
def vSize : SVal → Nat
  | .group l => vSizeAll l + 1
  | .valuer _ v _ => vSize v + 1
  | _ => 1
def vSizeAll : SAttrs → Nat
  | .nil => 0
  | .cons _ v r => vSize v + vSizeAll r
end
theorem vSize_pos (d : SVal) : 1 ≤ vSize d := by cases d <;> (unfold vSize; omega)
theorem slen_le : ∀ l : SAttrs, l.len ≤ vSizeAll l
  | .nil => by unfold vSizeAll SAttrs.len; omega
  | .cons _ v r => by have := slen_le r; have := vSize_pos v; unfold vSizeAll SAttrs.len; omega

/-- The contract of impl.told, and of impl.attrsTold. -/
def ToldV (d : SVal) : Prop := ∀ (P : Nat → Prop) (w : World) (x y : Value), vSize d ≤ 700000 → RSV P w d x y → Calls Tryz.prog 97 #[.agg #[x, y]] w (TidyPost (told d) w)
def ToldL (l : SAttrs) : Prop := ∀ (P : Nat → Prop) (w : World) (A : Option Addr) (len cap : Nat), vSizeAll l ≤ 700000 → RSS P w l A len → Calls Tryz.prog 102 #[.slice A len cap] w (ListPost (attrsTold l) w)

/-- One round. -/
def ToldRnd (P : Nat → Prop) (w : World) (l : SAttrs) (b o : Nat) (slot3 slot8 : Value) (wr : World) : Prop :=
  ∃ (k : Nat) (rest : SAttrs) (acc : GAttrs) (n : Nat) (xs : List Value), k + rest.len = l.len ∧ slot8 = .int .i64 k ∧ wr.ownsRow w.heap.size 35 8 slot3 n xs ∧ RXs (Beside w.heap.size slot3) wr acc xs ∧
    attrsTold l = acc.append (attrsTold rest) ∧ acc.len ≤ k ∧ RSAs P w rest b (o + k * 3) ∧ vSizeAll rest ≤ vSizeAll l ∧ Below w.heap.size w wr

theorem attrsTold_nil : attrsTold .nil = .nil := by simp only [attrsTold]
theorem attrsTold_cons (key : ByteArray) (v : SVal) (r : SAttrs) : attrsTold (.cons key v r) = .cons key (told v) (attrsTold r) := by simp only [attrsTold]
theorem ras_keepS {P : Nat → Prop} {w w' : World} (hk : Keeps w w') : ∀ (l : SAttrs) (b o : Nat), RSAs P w l b o → RSAs P w' l b o
  | .nil, _, _, _ => by unfold RSAs; trivial
  | .cons key v r, b, o, h => by
    unfold RSAs at h ⊢
    obtain ⟨h0, ⟨vx, vy, h1, h2, hv⟩, hr⟩ := h
    exact ⟨hk.cell h0, ⟨vx, vy, hk.cell h1, hk.cell h2, hv.keep hk⟩, ras_keepS hk r b (o + 3) hr⟩

set_option maxRecDepth 100000 in
set_option maxHeartbeats 400000 in
theorem attrs_told (l : SAttrs) (ih : ∀ d : SVal, vSize d ≤ vSizeAll l → ToldV d) : ToldL l := by
  intro P w A len cap hsz hl
  obtain ⟨hl0, hl1⟩ := hl
  obtain ⟨i0, hi, hz0, hz1, hz2⟩ := info_parts infoAttr
  by_cases hz : len = 0
  · subst hz
    have : l = .nil := by cases l with | nil => rfl | cons => simp [SAttrs.len] at hl0
    subst this
    clear hl0 hl1
    go_enter Tryz.func102, Tryz.ntmps102
    go_wp2
    go_loopw [3, 8] (fun a c wr => a = .slice none 0 0 ∧ c = .int .i64 0 ∧ wr = w) (fun _ _ _ => 0)
    case atStart => exact ⟨rfl, rfl, rfl⟩
    case round =>
      obtain ⟨rfl, rfl, rfl⟩ := hrel
      go_wp2
      go_ret
      exact ⟨none, 0, 0, rfl, by rw [attrsTold_nil]; exact RSP.nil_ _ _ _, Below.refl _ _⟩
  · obtain ⟨b, o, rfl, _, hr⟩ := hl1 (by omega)
    clear hl1
    have Hl0 := Lib.hid hl0
    clear hl0
    go_enter Tryz.func102, Tryz.ntmps102
    go_wp2
    go_loopw [3, 8] (fun a c wr => ToldRnd P w l b o a c wr) (fun _ c _ => len - (intOf c).toNat)
    case atStart => exact ⟨0, l, .nil, 0, [], by omega, rfl, World.ownsRow_nil _ _ _ _, rfl, rfl, Nat.le_refl _, hr, Nat.le_refl _, Below.refl _ _⟩
    case round =>
      obtain ⟨k, rest, acc, n, xs, hk, rfl, hown, hx, hval, hacc, hrs, hrz, hB⟩ := hrel
      have hk' := Hl0.out
      have HX := Lib.hid hx
      have HO := Lib.hid hown
      have Hval := Lib.hid hval
      have hn : n = acc.len := by have h1 := hown.1; have h2 := RXs.len acc xs hx; omega
      have hll := slen_le l
      have hsize := hB.size
      cases rest with
      | nil =>
        have hke : ¬ ((k : Int) < (len : Int)) := by simp [SAttrs.len] at hk; omega
        obtain ⟨A', cap', rfl, hrsp⟩ := rsp_of_owns (Q := New w) hown hx (fun b hb => hb.1) (fun b hb => hb)
        have HR := Lib.hid hrsp
        clear hown hx hval hk hk' hrsp hrs hn
        go_wp2
        go_ret
        refine ⟨A', _, cap', rfl, ?_, hB⟩
        rw [Hval.out, attrsTold_nil, append_nil]; exact HR.out
      | cons key v r =>
        have hlt : k < len := by simp only [SAttrs.len] at hk; omega
        have hkk : k + 1 + r.len = l.len := by simp only [SAttrs.len] at hk; omega
        have hvs : vSize v + vSizeAll r ≤ vSizeAll l := by simpa only [vSizeAll] using hrz
        have hrle : vSizeAll r ≤ vSizeAll l := by omega
        have hvle : vSize v ≤ 700000 := by omega
        have Hih := Lib.hid (ih v (by omega))
        have hrs' := ras_keepS (keeps_of_below hB) _ _ _ hrs
        unfold RSAs at hrs hrs'
        have Hr := Lib.hid hrs.2.2
        obtain ⟨hkey, ⟨vx, vy, h1, h2, hv⟩, _⟩ := hrs'
        obtain ⟨i, rfl, hy⟩ := rsv_shape hv
        have HV := Lib.hid hv
        have hbb : b < wr.heap.size := World.block_lt_of_cell? wr _ hkey
        have Hend := Lib.hid (Hval.out.trans (congrArg acc.append (attrsTold_cons key v r)))
        have hkn : n + 1 ≤ 700000 := by omega
        have HLT := Lib.hid (fun g hg => (hown.lt g hg).2)
        clear hr ih hown hx hval hk hk' hrz hvs Hval hn hrs hv
        rcases hy with rfl | ⟨t, u, rfl⟩
        · go_wp2
          go_region_held_law (fun w' => w'.cell? ⟨wr.heap.size, 0, none⟩ = some (.string key) ∧ w'.cell? ⟨wr.heap.size, 1, none⟩ = some (.int .u64 i) ∧ w'.cell? ⟨wr.heap.size, 2, none⟩ = some (.nilIface)) (go_keep) (first
            | (refine step_append_lies _ rfl (.tmp 12) (.tmp 19) 24 rfl w.heap.size 35 i0 _ 8 96 Tryz.underlying24 hi hz0 hz1 hz2 rfl (by decide) _ n xs rfl (HO2.out.alloc _) ⟨_, 0, none⟩ 1 1 [.string key, .int .i64 (told v).kind, .int .u64 (told v).n, .string (told v).s, .int .i64 (told v).t.sec, .int .i64 (told v).t.nsec, .int .i64 (told v).t.off, .slice A2 len2 cap2] rfl rfl (by intro j u hj; exact cells_new _ _ _ _ (by simp) j u hj) (by intro u hu; simp at hu; rcases hu with rfl | rfl | rfl | rfl | rfl | rfl | rfl | rfl; all_goals rfl) (by decide) (by unfold maxLen; omega) (by omega) (by simp; omega) _ rfl ?_; intro g cap3 w3 hown3 hgrow3 hat3 hlt3; have hc3 : ∀ o', w3.cell? ⟨wr.heap.size, o', none⟩ = w2.cell? ⟨wr.heap.size, o', none⟩ := (fun o' => (World.cell?_of_block (a := ⟨wr.heap.size, o', none⟩) (hgrow3.block wr.heap.size (by simp; omega) (fun e => by have := HLT.out _ e.symm; omega))).trans (World.cell?_of_block (a := ⟨wr.heap.size, o', none⟩) (Below.heap_alloc w2 _ _ hl2))); have HO3 := Lib.hid hown3; have HG3 := Lib.hid hgrow3; have HA3 := Lib.hid hat3; clear hown3 hgrow3 hat3 hlt3)
            | (go_at_call 97; refine (Hih.out _ _ _ _ hvle (HV.out.keep (keeps_of_below (by repeat' (first | with_reducible assumption | with_reducible exact Below.refl _ _ | with_reducible refine Below.setCell ?_ ?_ _ | with_reducible refine Below.alloc ?_ ?_ _ | with_reducible refine Below.drew ?_ | with_reducible refine below_drewN ?_ _ | omega | (simp; done) | (simp; omega)))))).mono ?_; rintro e w2 ⟨A2, len2, cap2, rfl, hr2, hb2⟩; have HR2 := Lib.hid hr2; have HB2 := Lib.hid (keeps_below (show Below w.heap.size w _ from (by repeat' (first | with_reducible assumption | with_reducible exact Below.refl _ _ | with_reducible refine Below.setCell ?_ ?_ _ | with_reducible refine Below.alloc ?_ ?_ _ | with_reducible refine Below.drew ?_ | with_reducible refine below_drewN ?_ _ | omega | (simp; done) | (simp; omega)))) hb2); have HBr := Lib.hid (keeps_below (show Below wr.heap.size wr _ from (by repeat' (first | with_reducible assumption | with_reducible exact Below.refl _ _ | with_reducible refine Below.setCell ?_ ?_ _ | with_reducible refine Below.alloc ?_ ?_ _ | with_reducible refine Below.drew ?_ | with_reducible refine below_drewN ?_ _ | omega | (simp; done) | (simp; omega)))) hb2); obtain ⟨hc2, hf2⟩ := bcell hb2; have hs2 := hb2.size; simp at hs2; have hl2 : wr.heap.size < w2.heap.size := (by omega); have HO2 := Lib.hid (own_below ((HO.out.alloc _).drew) hb2); clear hr2; unfold vVal))
          go_wp2
          refine ⟨⟨k + 1, r, acc.snoc key (told v), n + 1, _, hkk, by push_cast; rfl, HO3.out, ?_, ?_, ?_, ?_, hrle, ?_⟩, ?_⟩
          · exact tidy_snoc (RXs.turn (keepsOn_of_below HBr.out _) (fun _ h _ => h) _ _ HX.out) HR2.out (fun g hg => by have := HLT.out g hg; simp; omega) (by simp; omega) (fun P => (KeepsOn.refl P _).alloc _) (by simp) HG3.out (HA3.out.elim (fun h => .inl h.symm) (fun h => .inr (by rw [← h]; rfl)))
          · rw [snoc_append]; exact Hend.out
          · rw [len_snoc]; omega
          · have := Hr.out
            rwa [show o + (k + 1) * 3 = o + k * 3 + 3 by omega]
          · exact Below.grown (HB2.out.alloc (by omega) _) HG3.out (by simp; omega) (fun g hg => (HO.out.lt g hg).1)
          · simp only [intOf]; omega
        · go_wp2
          go_region_held_law (fun w' => w'.cell? ⟨wr.heap.size, 0, none⟩ = some (.string key) ∧ w'.cell? ⟨wr.heap.size, 1, none⟩ = some (.int .u64 i) ∧ w'.cell? ⟨wr.heap.size, 2, none⟩ = some (.iface t u)) (go_keep) (first
            | (refine step_append_lies _ rfl (.tmp 12) (.tmp 19) 24 rfl w.heap.size 35 i0 _ 8 96 Tryz.underlying24 hi hz0 hz1 hz2 rfl (by decide) _ n xs rfl (HO2.out.alloc _) ⟨_, 0, none⟩ 1 1 [.string key, .int .i64 (told v).kind, .int .u64 (told v).n, .string (told v).s, .int .i64 (told v).t.sec, .int .i64 (told v).t.nsec, .int .i64 (told v).t.off, .slice A2 len2 cap2] rfl rfl (by intro j u hj; exact cells_new _ _ _ _ (by simp) j u hj) (by intro u hu; simp at hu; rcases hu with rfl | rfl | rfl | rfl | rfl | rfl | rfl | rfl; all_goals rfl) (by decide) (by unfold maxLen; omega) (by omega) (by simp; omega) _ rfl ?_; intro g cap3 w3 hown3 hgrow3 hat3 hlt3; have hc3 : ∀ o', w3.cell? ⟨wr.heap.size, o', none⟩ = w2.cell? ⟨wr.heap.size, o', none⟩ := (fun o' => (World.cell?_of_block (a := ⟨wr.heap.size, o', none⟩) (hgrow3.block wr.heap.size (by simp; omega) (fun e => by have := HLT.out _ e.symm; omega))).trans (World.cell?_of_block (a := ⟨wr.heap.size, o', none⟩) (Below.heap_alloc w2 _ _ hl2))); have HO3 := Lib.hid hown3; have HG3 := Lib.hid hgrow3; have HA3 := Lib.hid hat3; clear hown3 hgrow3 hat3 hlt3)
            | (go_at_call 97; refine (Hih.out _ _ _ _ hvle (HV.out.keep (keeps_of_below (by repeat' (first | with_reducible assumption | with_reducible exact Below.refl _ _ | with_reducible refine Below.setCell ?_ ?_ _ | with_reducible refine Below.alloc ?_ ?_ _ | with_reducible refine Below.drew ?_ | with_reducible refine below_drewN ?_ _ | omega | (simp; done) | (simp; omega)))))).mono ?_; rintro e w2 ⟨A2, len2, cap2, rfl, hr2, hb2⟩; have HR2 := Lib.hid hr2; have HB2 := Lib.hid (keeps_below (show Below w.heap.size w _ from (by repeat' (first | with_reducible assumption | with_reducible exact Below.refl _ _ | with_reducible refine Below.setCell ?_ ?_ _ | with_reducible refine Below.alloc ?_ ?_ _ | with_reducible refine Below.drew ?_ | with_reducible refine below_drewN ?_ _ | omega | (simp; done) | (simp; omega)))) hb2); have HBr := Lib.hid (keeps_below (show Below wr.heap.size wr _ from (by repeat' (first | with_reducible assumption | with_reducible exact Below.refl _ _ | with_reducible refine Below.setCell ?_ ?_ _ | with_reducible refine Below.alloc ?_ ?_ _ | with_reducible refine Below.drew ?_ | with_reducible refine below_drewN ?_ _ | omega | (simp; done) | (simp; omega)))) hb2); obtain ⟨hc2, hf2⟩ := bcell hb2; have hs2 := hb2.size; simp at hs2; have hl2 : wr.heap.size < w2.heap.size := (by omega); have HO2 := Lib.hid (own_below ((HO.out.alloc _).drew) hb2); clear hr2; unfold vVal))
          go_wp2
          refine ⟨⟨k + 1, r, acc.snoc key (told v), n + 1, _, hkk, by push_cast; rfl, HO3.out, ?_, ?_, ?_, ?_, hrle, ?_⟩, ?_⟩
          · exact tidy_snoc (RXs.turn (keepsOn_of_below HBr.out _) (fun _ h _ => h) _ _ HX.out) HR2.out (fun g hg => by have := HLT.out g hg; simp; omega) (by simp; omega) (fun P => (KeepsOn.refl P _).alloc _) (by simp) HG3.out (HA3.out.elim (fun h => .inl h.symm) (fun h => .inr (by rw [← h]; rfl)))
          · rw [snoc_append]; exact Hend.out
          · rw [len_snoc]; omega
          · have := Hr.out
            rwa [show o + (k + 1) * 3 = o + k * 3 + 3 by omega]
          · exact Below.grown (HB2.out.alloc (by omega) _) HG3.out (by simp; omega) (fun g hg => (HO.out.lt g hg).1)
          · simp only [intOf]; omega

end Go.Proofs.YtihhgnbgejjijaaGreatDoor.Va

/- What impl.told tells of a value of package slog: the kinds with parts. -/
namespace Go.Proofs.YtihhgnbgejjijaaGreatDoor.Va
set_option linter.unusedVariables false
set_option linter.unusedSimpArgs false
open Go Go.RowKit

set_option maxRecDepth 100000 in
set_option maxHeartbeats 1000000 in
theorem extraTold_any (s : ByteArray) (w : World) : Calls Tryz.prog 154 #[.string s] w (ListPost (extraTold s) w) := by
  unfold ListPost
  by_cases hs : s = ByteArray.empty
  · subst hs
    go_enter Tryz.func154, Tryz.ntmps154
    go_wp2
    go_ret
    exact ⟨none, 0, 0, rfl, RSP.nil_ _ _ _, Below.refl _ _⟩
  · have hsl := toList_ne hs
    have hsz : ¬ s.size = 0 := fun h => hs (ByteArray.ext (Array.eq_empty_of_size_eq_zero h))
    go_enter Tryz.func154, Tryz.ntmps154
    go_wp2
    go_ret
    refine ⟨some ⟨w.heap.size, 0, none⟩, 1, 1, rfl, ?_, (by repeat' (first | with_reducible assumption | with_reducible exact Below.refl _ _ | with_reducible refine Below.setCell ?_ ?_ _ | with_reducible refine Below.alloc ?_ ?_ _ | with_reducible refine Below.drew ?_ | with_reducible refine below_drewN ?_ _ | omega | (simp; done) | (simp; omega)))⟩
    rw [extraTold, if_neg hsz]
    exact ⟨rfl, fun _ => ⟨_, 0, rfl, Nat.le_refl _, ras_single (d := GVal.zero) (by simp [go_sem]) (RSP.nil_ _ _ _)⟩⟩

set_option maxRecDepth 100000 in
set_option maxHeartbeats 1000000 in
theorem told_any_both (s t : ByteArray) (w : World) : Calls Tryz.prog 97 #[.agg #[.int .u64 0, .iface 229 (.agg #[.string s, .string t])]] w (TidyPost (.mk 0 15 s .zero (extraTold t)) w) := by
  unfold TidyPost
  have cK := fun wx => kind_any (P := fun _ => True) (.any (.both s t)) wx _ _ (by unfold RSV; exact ⟨rfl, rfl⟩)
  simp only [SVal.kind] at cK
  have CK := Lib.hid (fun wx (_ : Keeps w wx) => cK wx)
  clear cK
  have cG := fun wx => anyG_any (P := fun _ => True) (.both s t) wx (.int .u64 0) (.iface 229 (.agg #[.string s, .string t])) (by unfold RSV; exact ⟨rfl, rfl⟩)
  simp only [outOf] at cG
  have CG := Lib.hid (fun wx (_ : Keeps w wx) => cG wx)
  clear cG
  go_enter Tryz.func97, Tryz.ntmps97
  go_wp2_with (first
    | (go_at_call 133; (with_reducible refine (CK.out _ (keeps_of_below (by repeat' (first | with_reducible assumption | with_reducible exact Below.refl _ _ | with_reducible refine Below.setCell ?_ ?_ _ | with_reducible refine Below.alloc ?_ ?_ _ | with_reducible refine Below.drew ?_ | with_reducible refine below_drewN ?_ _ | omega | (simp; done) | (simp; omega))))).mono ?_); rintro e w1 ⟨rfl, hb1⟩; have hB1 := keeps_below (show Below w.heap.size w _ from (by repeat' (first | with_reducible assumption | with_reducible exact Below.refl _ _ | with_reducible refine Below.setCell ?_ ?_ _ | with_reducible refine Below.alloc ?_ ?_ _ | with_reducible refine Below.drew ?_ | with_reducible refine below_drewN ?_ _ | omega | (simp; done) | (simp; omega)))) hb1; obtain ⟨hc1, hf1⟩ := bcell hb1; have hz1 := hb1.size; (try simp at hz1); have e10 : w.heap.size < w1.heap.size := (by omega); (try have e11 : w.heap.size + 1 < w1.heap.size := (by omega)))
    | (go_at_call 101; refine (CG.out _ (keeps_of_below hB1)).mono ?_; rintro e w2 ⟨rfl, hb2⟩; have hB2 := keeps_below hB1 hb2; obtain ⟨hc2, hf2⟩ := bcell hb2; have e20 : w.heap.size < w2.heap.size := Nat.lt_of_lt_of_le e10 hb2.size; have e21 : w.heap.size + 1 < w2.heap.size := Nat.lt_of_lt_of_le e11 hb2.size))
  have hn1 : ¬ w.heap.size + 1 = w2.heap.size := by omega
  have hn2 : ¬ w2.heap.size = w.heap.size + 1 := by omega
  go_region_held_law (fun w' => w'.cell? ⟨w2.heap.size, 0, none⟩ = some (.string s) ∧ w'.cell? ⟨w2.heap.size, 1, none⟩ = some (.string t)) (go_keep) (first
    | (go_at_call 154; refine (extraTold_any _ _).mono ?_; rintro e w3 ⟨A3, len3, cap3, rfl, hr3, hb3⟩; have hB3 := keeps_below (show Below w.heap.size w _ from (by repeat' (first | with_reducible assumption | with_reducible exact Below.refl _ _ | with_reducible refine Below.setCell ?_ ?_ _ | with_reducible refine Below.alloc ?_ ?_ _ | with_reducible refine Below.drew ?_ | with_reducible refine below_drewN ?_ _ | omega | (simp; done) | (simp; omega)))) hb3; obtain ⟨hc3, hf3⟩ := bcell hb3; have hz3 := hb3.size; (try simp at hz3); have e30 : w.heap.size < w3.heap.size := (by omega); have e31 : w.heap.size + 1 < w3.heap.size := (by omega); have e32 : w2.heap.size < w3.heap.size + 1 := (by omega)))
  go_wp2
  refine bodyPost_ret (v := vVal (.mk 0 15 s .zero (extraTold t)) A3 len3 cap3) ?r rfl ⟨_, _, _, rfl, ?s, ?bl⟩
  case r => simp [results, Tryz.results97, go_sem, hc1, hf1, e10, e11, hc2, hf2, e20, e21, Nat.lt_succ_of_lt e21, Nat.lt_succ_of_lt e20, Nat.ne_of_lt e21, Nat.ne_of_lt e20, hc3, hf3, e30, e31, e32, GVal.zero, GTime.zero]; (try rfl); all_goals (repeat' (first | rfl | apply And.intro))
  case bl => exact below_set7 hB3 (by omega) _ _ _ _ _ _ _
  case s => exact hr3.turn (by repeat' (first | with_reducible assumption | with_reducible exact KeepsOn.refl _ _ | with_reducible refine KeepsOn.setCell ?_ ?_ _ | with_reducible refine KeepsOn.alloc ?_ _ | with_reducible refine KeepsOn.drew ?_ | (intro b hb; simp at hb ⊢; omega) | (rintro b ⟨_, hb⟩; simp at hb ⊢; omega) | (rintro b ⟨_, hb⟩; omega))) (fun b hb _ => by simp at hb ⊢; omega)

set_option maxRecDepth 100000 in
set_option maxHeartbeats 1000000 in
theorem told_any_bytes {P : Nat → Prop} (s : ByteArray) (w : World) (A : Option Addr) (len cap : Nat) (hR : RAny P w (.bytes s) (.iface 219 (.slice A len cap))) : Calls Tryz.prog 97 #[.agg #[.int .u64 0, .iface 219 (.slice A len cap)]] w (TidyPost (.mk 0 3 s .zero .nil) w) := by
  unfold TidyPost
  have cK := fun wx (hk : Keeps w wx) => kind_any (P := P) (.any (.bytes s)) wx (.int .u64 0) (.iface 219 (.slice A len cap)) (by unfold RSV; exact ⟨rfl, hR.turn (hk.on P) (fun _ x _ => x)⟩)
  simp only [SVal.kind] at cK
  have CK := Lib.hid cK
  clear cK
  have cG := fun wx (hk : Keeps w wx) => anyG_any (P := P) (.bytes s) wx (.int .u64 0) (.iface 219 (.slice A len cap)) (by unfold RSV; exact ⟨rfl, hR.turn (hk.on P) (fun _ x _ => x)⟩)
  simp only [outOf] at cG
  have CG := Lib.hid cG
  clear cG
  have hcv : ∀ wx, Keeps w wx → (convert 219 9 (.slice A len cap)).run Tryz.prog wx = .ok (.string s) wx := by
    intro wx hk
    have h := hR.turn (hk.on P) (fun _ x _ => x)
    simp only [RAny] at h
    obtain ⟨A', len', cap', e, hl, hc⟩ := h
    injection e with _ e; injection e with e1 e2 e3
    subst e1; subst e2; subst e3
    by_cases h0 : len = 0
    · have hs : s = ByteArray.empty := ByteArray.ext (Array.eq_empty_of_size_eq_zero (show s.size = 0 by omega))
      subst hs
      have hA : A = none ∨ ∃ a, A = some a := by cases A with | none => exact .inl rfl | some a => exact .inr ⟨a, rfl⟩
      rcases hA with rfl | ⟨a, rfl⟩
      · subst h0
        exact Go.Lib.run_convert_nil_bytes (P := Tryz.prog) wx 219 9 5 cap Tryz.underlying219 Tryz.underlying5 Tryz.underlying9
      · subst h0
        exact run_convert_bytes_back (P := Tryz.prog) wx 219 9 5 a cap [] Tryz.underlying219 Tryz.underlying5 Tryz.underlying9 (fun j hj => absurd hj (Nat.not_lt_zero _))
    · obtain ⟨b, o, rfl, _, hcell⟩ := hc (by omega)
      subst hl
      have h := run_convert_bytes_back (P := Tryz.prog) wx 219 9 5 ⟨b, o, none⟩ cap s.data.toList Tryz.underlying219 Tryz.underlying5 Tryz.underlying9 (fun j hj => by
        have hh := hcell j (by simpa using hj)
        simp at hj
        have hh' : s.data.toList.getD j 0 = s.data.toList[j]'(by simpa using hj) := by simp [List.getD, hj]
        rw [hh'] at hh
        have ha : (⟨b, o, none⟩ : Addr).add j = ⟨b, o + j, none⟩ := by cases j <;> simp [Addr.add]
        rw [ha]; exact hh)
      simpa using h
  have HCV := Lib.hid hcv
  clear hcv hR
  go_enter Tryz.func97, Tryz.ntmps97
  go_wp2_with (first
    | (go_at_call 133; (with_reducible refine (CK.out _ (keeps_of_below (by repeat' (first | with_reducible assumption | with_reducible exact Below.refl _ _ | with_reducible refine Below.setCell ?_ ?_ _ | with_reducible refine Below.alloc ?_ ?_ _ | with_reducible refine Below.drew ?_ | with_reducible refine below_drewN ?_ _ | omega | (simp; done) | (simp; omega))))).mono ?_); rintro e w1 ⟨rfl, hb1⟩; have hB1 := keeps_below (show Below w.heap.size w _ from (by repeat' (first | with_reducible assumption | with_reducible exact Below.refl _ _ | with_reducible refine Below.setCell ?_ ?_ _ | with_reducible refine Below.alloc ?_ ?_ _ | with_reducible refine Below.drew ?_ | with_reducible refine below_drewN ?_ _ | omega | (simp; done) | (simp; omega)))) hb1; obtain ⟨hc1, hf1⟩ := bcell hb1; have hz1 := hb1.size; (try simp at hz1); have e10 : w.heap.size < w1.heap.size := (by omega); (try have e11 : w.heap.size + 1 < w1.heap.size := (by omega)))
    | (go_at_call 101; refine (CG.out _ (keeps_of_below hB1)).mono ?_; rintro e w2 ⟨rfl, hb2⟩; have hB2 := keeps_below hB1 hb2; have hcv2 := HCV.out _ (keeps_of_below hB2); obtain ⟨hc2, hf2⟩ := bcell hb2; have e20 : w.heap.size < w2.heap.size := Nat.lt_of_lt_of_le e10 hb2.size; have e21 : w.heap.size + 1 < w2.heap.size := Nat.lt_of_lt_of_le e11 hb2.size))
  exact bodyPost_ret (v := vVal (.mk 0 3 s .zero .nil) none 0 0) (by simp [results, Tryz.results97, go_sem, hc1, hf1, e10, e11, hc2, hf2, e20, e21, GVal.zero, GTime.zero]; try rfl) rfl ⟨none, 0, 0, rfl, RSP.nil_ _ _ _, below_set7 hB2 (by omega) _ _ _ _ _ _ _⟩

set_option maxRecDepth 100000 in
set_option maxHeartbeats 1000000 in
theorem told_throws (s : ByteArray) (c : Option Addr) (w : World) : Calls Tryz.prog 97 #[.agg #[.int .u64 0, .iface 194 (.agg #[.string s, .pointer c])]] w (TidyPost (.mk 9 0 s .zero .nil) w) := by
  unfold TidyPost
  have cK := fun wx => kind_any (P := fun _ => True) (.throws s c) wx _ _ (by unfold RSV; exact ⟨rfl, rfl⟩)
  simp only [SVal.kind] at cK
  have CK := Lib.hid (fun wx (_ : Keeps w wx) => cK wx)
  clear cK
  go_enter Tryz.func97, Tryz.ntmps97
  go_wp2_with (first
    | (go_at_call 133; (with_reducible refine (CK.out _ (keeps_of_below (by repeat' (first | with_reducible assumption | with_reducible exact Below.refl _ _ | with_reducible refine Below.setCell ?_ ?_ _ | with_reducible refine Below.alloc ?_ ?_ _ | with_reducible refine Below.drew ?_ | with_reducible refine below_drewN ?_ _ | omega | (simp; done) | (simp; omega))))).mono ?_); rintro e w1 ⟨rfl, hb1⟩; have hB1 := keeps_below (show Below w.heap.size w _ from (by repeat' (first | with_reducible assumption | with_reducible exact Below.refl _ _ | with_reducible refine Below.setCell ?_ ?_ _ | with_reducible refine Below.alloc ?_ ?_ _ | with_reducible refine Below.drew ?_ | with_reducible refine below_drewN ?_ _ | omega | (simp; done) | (simp; omega)))) hb1; obtain ⟨hc1, hf1⟩ := bcell hb1; have hz1 := hb1.size; (try simp at hz1); have e10 : w.heap.size < w1.heap.size := (by omega); (try have e11 : w.heap.size + 1 < w1.heap.size := (by omega)))
    | (go_at_call 144; refine (get_LogValuer _ _ (by decide) _ _).mono ?_; rintro e w2 ⟨rfl, hb2⟩; have hB2 := keeps_below hB1 hb2; obtain ⟨hc2, hf2⟩ := bcell hb2; have e20 : w.heap.size < w2.heap.size := Nat.lt_of_lt_of_le e10 hb2.size; have e21 : w.heap.size + 1 < w2.heap.size := Nat.lt_of_lt_of_le e11 hb2.size))
  exact bodyPost_ret (v := vVal (.mk 9 0 s .zero .nil) none 0 0) (by simp [results, Tryz.results97, go_sem, hc1, hf1, e10, e11, hc2, hf2, e20, e21, GVal.zero, GTime.zero]; try rfl) rfl ⟨none, 0, 0, rfl, RSP.nil_ _ _ _, (by repeat' (first | with_reducible assumption | with_reducible exact Below.refl _ _ | with_reducible refine Below.setCell ?_ ?_ _ | with_reducible refine Below.alloc ?_ ?_ _ | with_reducible refine Below.drew ?_ | with_reducible refine below_drewN ?_ _ | omega | (simp; done) | (simp; omega)))⟩

set_option maxRecDepth 100000 in
set_option maxHeartbeats 1000000 in
theorem told_group {P : Nat → Prop} (l : SAttrs) (ih : ToldL l) (hsz : vSizeAll l ≤ 700000) (w : World) (A : Option Addr) (len cap : Nat) (hl : RSS P w l A len) : Calls Tryz.prog 97 #[.agg #[.int .u64 len, .iface 245 (.slice A len cap)]] w (TidyPost (.mk 8 0 ByteArray.empty .zero (attrsTold l)) w) := by
  unfold TidyPost
  have cK := fun wx (hk : Keeps w wx) => kind_any (P := P) (.group l) wx (.int .u64 len) (.iface 245 (.slice A len cap)) (by unfold RSV; exact ⟨A, len, cap, rfl, rfl, hl.turn (hk.on P) (fun _ x _ => x)⟩)
  simp only [SVal.kind] at cK
  have CK := Lib.hid cK
  clear cK
  have HL := Lib.hid hl
  have Hih := Lib.hid ih
  clear hl ih
  go_enter Tryz.func97, Tryz.ntmps97
  go_wp2_with (first
    | (go_at_call 133; (with_reducible refine (CK.out _ (keeps_of_below (by repeat' (first | with_reducible assumption | with_reducible exact Below.refl _ _ | with_reducible refine Below.setCell ?_ ?_ _ | with_reducible refine Below.alloc ?_ ?_ _ | with_reducible refine Below.drew ?_ | with_reducible refine below_drewN ?_ _ | omega | (simp; done) | (simp; omega))))).mono ?_); rintro e w1 ⟨rfl, hb1⟩; have hB1 := keeps_below (show Below w.heap.size w _ from (by repeat' (first | with_reducible assumption | with_reducible exact Below.refl _ _ | with_reducible refine Below.setCell ?_ ?_ _ | with_reducible refine Below.alloc ?_ ?_ _ | with_reducible refine Below.drew ?_ | with_reducible refine below_drewN ?_ _ | omega | (simp; done) | (simp; omega)))) hb1; obtain ⟨hc1, hf1⟩ := bcell hb1; have hz1 := hb1.size; (try simp at hz1); have e10 : w.heap.size < w1.heap.size := (by omega); (try have e11 : w.heap.size + 1 < w1.heap.size := (by omega)))
    | (go_at_call 153; refine (get_Group _ _ _ _ _).mono ?_; rintro e w2 ⟨rfl, hb2⟩; have hB2 := keeps_below hB1 hb2; obtain ⟨hc2, hf2⟩ := bcell hb2; have e20 : w.heap.size < w2.heap.size := Nat.lt_of_lt_of_le e10 hb2.size; have e21 : w.heap.size + 1 < w2.heap.size := Nat.lt_of_lt_of_le e11 hb2.size)
    | (go_at_call 102; refine (Hih.out _ _ _ _ _ hsz (HL.out.turn ((keeps_of_below hB2).on P) (fun _ x _ => x))).mono ?_; rintro e w3 ⟨A3, len3, cap3, rfl, hr3, hb3⟩; have hB3 := keeps_below (show Below w.heap.size w _ from (by repeat' (first | with_reducible assumption | with_reducible exact Below.refl _ _ | with_reducible refine Below.setCell ?_ ?_ _ | with_reducible refine Below.alloc ?_ ?_ _ | with_reducible refine Below.drew ?_ | with_reducible refine below_drewN ?_ _ | omega | (simp; done) | (simp; omega)))) hb3; obtain ⟨hc3, hf3⟩ := bcell hb3; have hz3 := hb3.size; (try simp at hz3); have e30 : w.heap.size < w3.heap.size := (by omega); have e31 : w.heap.size + 1 < w3.heap.size := (by omega); have e32 : w2.heap.size < w3.heap.size + 1 := (by omega)))
  refine bodyPost_ret (v := vVal (.mk 8 0 ByteArray.empty .zero (attrsTold l)) A3 len3 cap3) ?r rfl ⟨_, _, _, rfl, ?s, ?bl⟩
  case r => simp [results, Tryz.results97, go_sem, hc1, hf1, e10, e11, hc2, hf2, e20, e21, Nat.lt_succ_of_lt e21, Nat.lt_succ_of_lt e20, Nat.ne_of_lt e21, Nat.ne_of_lt e20, hc3, hf3, e30, e31, e32, GVal.zero, GTime.zero]; (try rfl); all_goals (repeat' (first | rfl | apply And.intro))
  case bl => exact below_set7 hB3 (by omega) _ _ _ _ _ _ _
  case s => exact hr3.turn (by repeat' (first | with_reducible assumption | with_reducible exact KeepsOn.refl _ _ | with_reducible refine KeepsOn.setCell ?_ ?_ _ | with_reducible refine KeepsOn.alloc ?_ _ | with_reducible refine KeepsOn.drew ?_ | (intro b hb; simp at hb ⊢; omega) | (rintro b ⟨_, hb⟩; simp at hb ⊢; omega) | (rintro b ⟨_, hb⟩; omega))) (fun b hb _ => by simp at hb ⊢; omega)

end Go.Proofs.YtihhgnbgejjijaaGreatDoor.Va

/- What impl.told tells of a *Source. -/
namespace Go.Proofs.YtihhgnbgejjijaaGreatDoor.Va
set_option linter.unusedVariables false
set_option linter.unusedSimpArgs false
open Go Go.RowKit

theorem cell_set7 {w : World} {c b : Nat} (h : ¬ c = b) (o : Nat) (v0 v1 v2 v3 v4 v5 v6 : Value) : (((((((w.setCell ⟨c, 0, none⟩ v0).setCell ⟨c, 1, none⟩ v1).setCell ⟨c, 2, none⟩ v2).setCell ⟨c, 3, none⟩ v3).setCell ⟨c, 4, none⟩ v4).setCell ⟨c, 5, none⟩ v5).setCell ⟨c, 6, none⟩ v6).cell? ⟨b, o, none⟩ = w.cell? ⟨b, o, none⟩ := by
  have hne : ∀ i : Nat, (⟨c, i, none⟩ : Addr) ≠ ⟨b, o, none⟩ := by intro i e; cases e; exact h rfl
  rw [World.cell?_setCell_other _ _ _ _ (hne _), World.cell?_setCell_other _ _ _ _ (hne _), World.cell?_setCell_other _ _ _ _ (hne _), World.cell?_setCell_other _ _ _ _ (hne _), World.cell?_setCell_other _ _ _ _ (hne _), World.cell?_setCell_other _ _ _ _ (hne _), World.cell?_setCell_other _ _ _ _ (hne _)]

set_option maxRecDepth 100000 in
set_option maxHeartbeats 1000000 in
theorem told_any_source {P : Nat → Prop} (f s : ByteArray) (n : Int) (w : World) (b : Nat) (hR : RAny P w (.source f s n) (.iface 106 (.pointer (some ⟨b, 0, none⟩)))) : Calls Tryz.prog 97 #[.agg #[.int .u64 0, .iface 106 (.pointer (some ⟨b, 0, none⟩))]] w (TidyPost (.mk 0 13 s ⟨n, 0, 0⟩ (extraTold f)) w) := by
  unfold TidyPost
  have cK := fun wx (hk : Keeps w wx) => kind_any (P := P) (.any (.source f s n)) wx (.int .u64 0) (.iface 106 (.pointer (some ⟨b, 0, none⟩))) (by unfold RSV; exact ⟨rfl, hR.turn (hk.on P) (fun _ x _ => x)⟩)
  simp only [SVal.kind] at cK
  have CK := Lib.hid cK
  clear cK
  have cG := fun wx (hk : Keeps w wx) => anyG_any (P := P) (.source f s n) wx (.int .u64 0) (.iface 106 (.pointer (some ⟨b, 0, none⟩))) (by unfold RSV; exact ⟨rfl, hR.turn (hk.on P) (fun _ x _ => x)⟩)
  simp only [outOf] at cG
  have CG := Lib.hid cG
  clear cG
  simp only [RAny] at hR
  obtain ⟨b', e, _, h0, h1, h2⟩ := hR
  have e' : b' = b := by injection e with _ e; injection e with e; injection e with e; injection e with e; exact e.symm
  subst e'
  clear e
  have hbl : b' < w.heap.size := World.block_lt_of_cell? w _ h0
  have H0 := Lib.hid h0
  have H1 := Lib.hid h1
  have H2 := Lib.hid h2
  clear h0 h1 h2
  go_enter Tryz.func97, Tryz.ntmps97
  go_wp2_with (first
    | (go_at_call 133; (with_reducible refine (CK.out _ (keeps_of_below (by repeat' (first | with_reducible assumption | with_reducible exact Below.refl _ _ | with_reducible refine Below.setCell ?_ ?_ _ | with_reducible refine Below.alloc ?_ ?_ _ | with_reducible refine Below.drew ?_ | with_reducible refine below_drewN ?_ _ | omega | (simp; done) | (simp; omega))))).mono ?_); rintro e w1 ⟨rfl, hb1⟩; have hB1 := keeps_below (show Below w.heap.size w _ from (by repeat' (first | with_reducible assumption | with_reducible exact Below.refl _ _ | with_reducible refine Below.setCell ?_ ?_ _ | with_reducible refine Below.alloc ?_ ?_ _ | with_reducible refine Below.drew ?_ | with_reducible refine below_drewN ?_ _ | omega | (simp; done) | (simp; omega)))) hb1; obtain ⟨hc1, hf1⟩ := bcell hb1; have hz1 := hb1.size; (try simp at hz1); have e10 : w.heap.size < w1.heap.size := (by omega); (try have e11 : w.heap.size + 1 < w1.heap.size := (by omega)))
    | (go_at_call 101; refine (CG.out _ (keeps_of_below hB1)).mono ?_; rintro e w2 ⟨rfl, hb2⟩; have hB2 := keeps_below hB1 hb2; obtain ⟨hc2, hf2⟩ := bcell hb2; have e20 : w.heap.size < w2.heap.size := Nat.lt_of_lt_of_le e10 hb2.size; have e21 : w.heap.size + 1 < w2.heap.size := Nat.lt_of_lt_of_le e11 hb2.size))
  have hn1 : ¬ w.heap.size + 1 = b' := by omega
  have hn2 : ¬ b' = w.heap.size + 1 := by omega
  have hn3 : b' < w2.heap.size := by omega
  have h0 := (keeps_of_below hB2).cell H0.out
  have h1 := (keeps_of_below hB2).cell H1.out
  have h2 := (keeps_of_below hB2).cell H2.out
  have u0 := (hc2 _ 0 e11).trans (hc1 _ 0 (by simp))
  have f0 := (hf2 _ 0 e11).trans (hf1 _ 0 (by simp))
  have u1 := (hc2 _ 1 e11).trans (hc1 _ 1 (by simp))
  have f1 := (hf2 _ 1 e11).trans (hf1 _ 1 (by simp))
  have u2 := (hc2 _ 2 e11).trans (hc1 _ 2 (by simp))
  have f2 := (hf2 _ 2 e11).trans (hf1 _ 2 (by simp))
  have u3 := (hc2 _ 3 e11).trans (hc1 _ 3 (by simp))
  have f3 := (hf2 _ 3 e11).trans (hf1 _ 3 (by simp))
  have u4 := (hc2 _ 4 e11).trans (hc1 _ 4 (by simp))
  have f4 := (hf2 _ 4 e11).trans (hf1 _ 4 (by simp))
  have u5 := (hc2 _ 5 e11).trans (hc1 _ 5 (by simp))
  have f5 := (hf2 _ 5 e11).trans (hf1 _ 5 (by simp))
  have u6 := (hc2 _ 6 e11).trans (hc1 _ 6 (by simp))
  have f6 := (hf2 _ 6 e11).trans (hf1 _ 6 (by simp))
  simp [go_sem] at u0 f0 u1 f1 u2 f2 u3 f3 u4 f4 u5 f5 u6 f6
  clear hc1 hc2 hf1 hf2 hb1 hb2
  go_region_held3 (fun w' => w'.cell? ⟨b', 0, none⟩ = some (.string f) ∧ w'.cell? ⟨b', 1, none⟩ = some (.string s) ∧ w'.cell? ⟨b', 2, none⟩ = some (.int .i64 n)) (first | with_reducible exact ⟨k0, k1, k2⟩ | with_reducible exact ⟨h0, h1, h2⟩ | with_reducible exact ⟨(cell_set7 hn1 _ _ _ _ _ _ _ _).trans k0, (cell_set7 hn1 _ _ _ _ _ _ _ _).trans k1, (cell_set7 hn1 _ _ _ _ _ _ _ _).trans k2⟩ | go_keep) (first
    | (go_at_call 154; refine (extraTold_any _ _).mono ?_; rintro e w3 ⟨A3, len3, cap3, rfl, hr3, hb3⟩; have hB3 := keeps_below (show Below w.heap.size w _ from (by repeat' (first | with_reducible assumption | with_reducible exact Below.refl _ _ | with_reducible refine Below.setCell ?_ ?_ _ | with_reducible refine Below.alloc ?_ ?_ _ | with_reducible refine Below.drew ?_ | with_reducible refine below_drewN ?_ _ | omega | (simp; done) | (simp; omega)))) hb3; obtain ⟨hc3, hf3⟩ := bcell hb3; have hz3 := hb3.size; (try simp at hz3); have e30 : w.heap.size < w3.heap.size := (by omega); have e31 : w.heap.size + 1 < w3.heap.size := (by omega); have e32 : w2.heap.size < w3.heap.size + 1 := (by omega); have m0 := (hc3 _ 0 e21).trans u0; have g0 := (hf3 _ 0 e21).trans f0; have m1 := (hc3 _ 1 e21).trans u1; have g1 := (hf3 _ 1 e21).trans f1; have m2 := (hc3 _ 2 e21).trans u2; have g2 := (hf3 _ 2 e21).trans f2; have m3 := (hc3 _ 3 e21).trans u3; have g3 := (hf3 _ 3 e21).trans f3; have m4 := (hc3 _ 4 e21).trans u4; have g4 := (hf3 _ 4 e21).trans f4; have m5 := (hc3 _ 5 e21).trans u5; have g5 := (hf3 _ 5 e21).trans f5; have m6 := (hc3 _ 6 e21).trans u6; have g6 := (hf3 _ 6 e21).trans f6; clear hc3 hf3; have k0 := (keeps_of_below hb3).cell h0; have k1 := (keeps_of_below hb3).cell h1; have k2 := (keeps_of_below hb3).cell h2))
  go_wp2
  refine bodyPost_ret (v := vVal (.mk 0 13 s ⟨n, 0, 0⟩ (extraTold f)) A3 len3 cap3) ?r rfl ⟨_, _, _, rfl, ?s, ?bl⟩
  case r => simp [results, Tryz.results97, go_sem, m0, g0, m1, g1, m2, g2, m3, g3, m4, g4, m5, g5, m6, g6, GVal.zero, GTime.zero]; (try rfl); all_goals (repeat' (first | rfl | apply And.intro))
  case bl => exact below_set7 hB3 (by omega) _ _ _ _ _ _ _
  case s => exact hr3.turn (by repeat' (first | with_reducible assumption | with_reducible exact KeepsOn.refl _ _ | with_reducible refine KeepsOn.setCell ?_ ?_ _ | with_reducible refine KeepsOn.alloc ?_ _ | with_reducible refine KeepsOn.drew ?_ | (intro b hb; simp at hb ⊢; omega) | (rintro b ⟨_, hb⟩; simp at hb ⊢; omega) | (rintro b ⟨_, hb⟩; omega))) (fun b hb _ => by simp at hb ⊢; omega)

end Go.Proofs.YtihhgnbgejjijaaGreatDoor.Va

/- What impl.told tells of a LogValuer that gives another value; and of every value. -/
namespace Go.Proofs.YtihhgnbgejjijaaGreatDoor.Va
set_option linter.unusedVariables false
set_option linter.unusedSimpArgs false
open Go Go.RowKit

section
variable {P : Nat → Prop} (n : Int) (v : SVal) (c : Option Addr) (w : World)

set_option maxRecDepth 100000 in
set_option maxHeartbeats 1000000 in
theorem told_valuer_of (i : Int) (y : Value) (hy : y = .nilIface ∨ ∃ t u, y = .iface t u) (hv : RSV P w v (.int .u64 i) y) (ih : ∀ wx, Keeps w wx → Calls Tryz.prog 97 #[.agg #[.int .u64 i, y]] wx (TidyPost (told v) wx)) :
    Calls Tryz.prog 97 #[.agg #[.int .u64 0, .iface 196 (.agg #[.int .u64 n, .int .u64 i, y, .pointer c])]] w (TidyPost (.mk 9 n ByteArray.empty .zero (.cons ByteArray.empty (told v) .nil)) w) := by
  unfold TidyPost
  have cK := fun wx (hk : Keeps w wx) => kind_any (P := P) (.valuer n v c) wx (.int .u64 0) (.iface 196 (.agg #[.int .u64 n, .int .u64 i, y, .pointer c])) (by unfold RSV; exact ⟨_, _, rfl, rfl, hv.keep hk⟩)
  simp only [SVal.kind] at cK
  have CK := Lib.hid cK
  have Hih := Lib.hid ih
  clear cK ih hv
  unfold TidyPost at Hih
  rcases hy with rfl | ⟨t, u, rfl⟩
  · go_enter Tryz.func97, Tryz.ntmps97
    go_wp2_with (first
      | (go_at_call 133; (with_reducible refine (CK.out _ (keeps_of_below (by repeat' (first | with_reducible assumption | with_reducible exact Below.refl _ _ | with_reducible refine Below.setCell ?_ ?_ _ | with_reducible refine Below.alloc ?_ ?_ _ | with_reducible refine Below.drew ?_ | with_reducible refine below_drewN ?_ _ | omega | (simp; done) | (simp; omega))))).mono ?_); rintro e w1 ⟨rfl, hb1⟩; have hB1 := keeps_below (show Below w.heap.size w _ from (by repeat' (first | with_reducible assumption | with_reducible exact Below.refl _ _ | with_reducible refine Below.setCell ?_ ?_ _ | with_reducible refine Below.alloc ?_ ?_ _ | with_reducible refine Below.drew ?_ | with_reducible refine below_drewN ?_ _ | omega | (simp; done) | (simp; omega)))) hb1; obtain ⟨hc1, hf1⟩ := bcell hb1; have hz1 := hb1.size; (try simp at hz1); have e10 : w.heap.size < w1.heap.size := (by omega); (try have e11 : w.heap.size + 1 < w1.heap.size := (by omega)))
      | (go_at_call 144; refine (get_LogValuer _ _ (by decide) _ _).mono ?_; rintro e w2 ⟨rfl, hb2⟩; have hB2 := keeps_below hB1 hb2; obtain ⟨hc2, hf2⟩ := bcell hb2; have e20 : w.heap.size < w2.heap.size := Nat.lt_of_lt_of_le e10 hb2.size; have e21 : w.heap.size + 1 < w2.heap.size := Nat.lt_of_lt_of_le e11 hb2.size))
    have hn1 : ¬ w.heap.size + 1 = w2.heap.size := by omega
    have hn2 : ¬ w2.heap.size = w.heap.size + 1 := by omega
    go_region_held3 (fun w' => w'.cell? ⟨w2.heap.size, 0, none⟩ = some (.int .u64 n) ∧ w'.cell? ⟨w2.heap.size, 1, none⟩ = some (.int .u64 i) ∧ w'.cell? ⟨w2.heap.size, 2, none⟩ = some .nilIface) (go_keep) (first
      | (go_at_call 97; refine (Hih.out _ (keeps_of_below (show Below w.heap.size w _ from (by repeat' (first | with_reducible assumption | with_reducible exact Below.refl _ _ | with_reducible refine Below.setCell ?_ ?_ _ | with_reducible refine Below.alloc ?_ ?_ _ | with_reducible refine Below.drew ?_ | with_reducible refine below_drewN ?_ _ | omega | (simp; done) | (simp; omega)))))).mono ?_; rintro e w3 ⟨A3, len3, cap3, rfl, hr3, hb3⟩; have hB3 := keeps_below (show Below w.heap.size w _ from (by repeat' (first | with_reducible assumption | with_reducible exact Below.refl _ _ | with_reducible refine Below.setCell ?_ ?_ _ | with_reducible refine Below.alloc ?_ ?_ _ | with_reducible refine Below.drew ?_ | with_reducible refine below_drewN ?_ _ | omega | (simp; done) | (simp; omega)))) hb3; obtain ⟨hc3, hf3⟩ := bcell hb3; have hz3 := hb3.size; (try simp at hz3); have e30 : w.heap.size < w3.heap.size := (by omega); have e31 : w.heap.size + 1 < w3.heap.size := (by omega); have e32 : w2.heap.size < w3.heap.size + 1 := (by omega); have e33 : w2.heap.size < w3.heap.size := (by omega); have hn3 : ¬ w.heap.size + 1 = w3.heap.size := (by omega); have hn4 : ¬ w2.heap.size = w3.heap.size := (by omega); have HR3 := Lib.hid hr3; clear hr3; unfold vVal))
    have hlo : New w w3.heap.size := by show w.heap.size ≤ _; omega
    go_wp2
    refine bodyPost_ret (v := vVal (.mk 9 n ByteArray.empty .zero (.cons ByteArray.empty (told v) .nil)) (some ⟨w3.heap.size, 0, none⟩) 1 1) ?_ rfl ⟨some ⟨w3.heap.size, 0, none⟩, 1, 1, rfl, ⟨rfl, fun _ => ⟨w3.heap.size, 0, rfl, hlo, ras_single (by simp) (HR3.out.turn (by repeat' (first | with_reducible assumption | with_reducible exact KeepsOn.refl _ _ | with_reducible refine KeepsOn.setCell ?_ ?_ _ | with_reducible refine KeepsOn.alloc ?_ _ | with_reducible refine KeepsOn.drew ?_ | (intro b hb; simp at hb ⊢; omega) | (rintro b ⟨_, hb⟩; simp at hb ⊢; omega) | (rintro b ⟨_, hb⟩; omega))) (fun b hb _ => by simp at hb ⊢; omega))⟩⟩, ?_⟩
    · simp [results, Tryz.results97, go_sem, hc1, hf1, e10, e11, hc2, hf2, e20, e21, Nat.lt_succ_of_lt e21, Nat.lt_succ_of_lt e20, Nat.ne_of_lt e21, Nat.ne_of_lt e20, hc3, hf3, e30, e31, e32, GVal.zero, GTime.zero]; (try rfl); all_goals (repeat' (first | rfl | apply And.intro))
    · exact (below_set7 hB3 (by omega) _ _ _ _ _ _ _).alloc (by simp; omega) _
  · go_enter Tryz.func97, Tryz.ntmps97
    go_wp2_with (first
      | (go_at_call 133; (with_reducible refine (CK.out _ (keeps_of_below (by repeat' (first | with_reducible assumption | with_reducible exact Below.refl _ _ | with_reducible refine Below.setCell ?_ ?_ _ | with_reducible refine Below.alloc ?_ ?_ _ | with_reducible refine Below.drew ?_ | with_reducible refine below_drewN ?_ _ | omega | (simp; done) | (simp; omega))))).mono ?_); rintro e w1 ⟨rfl, hb1⟩; have hB1 := keeps_below (show Below w.heap.size w _ from (by repeat' (first | with_reducible assumption | with_reducible exact Below.refl _ _ | with_reducible refine Below.setCell ?_ ?_ _ | with_reducible refine Below.alloc ?_ ?_ _ | with_reducible refine Below.drew ?_ | with_reducible refine below_drewN ?_ _ | omega | (simp; done) | (simp; omega)))) hb1; obtain ⟨hc1, hf1⟩ := bcell hb1; have hz1 := hb1.size; (try simp at hz1); have e10 : w.heap.size < w1.heap.size := (by omega); (try have e11 : w.heap.size + 1 < w1.heap.size := (by omega)))
      | (go_at_call 144; refine (get_LogValuer _ _ (by decide) _ _).mono ?_; rintro e w2 ⟨rfl, hb2⟩; have hB2 := keeps_below hB1 hb2; obtain ⟨hc2, hf2⟩ := bcell hb2; have e20 : w.heap.size < w2.heap.size := Nat.lt_of_lt_of_le e10 hb2.size; have e21 : w.heap.size + 1 < w2.heap.size := Nat.lt_of_lt_of_le e11 hb2.size))
    have hn1 : ¬ w.heap.size + 1 = w2.heap.size := by omega
    have hn2 : ¬ w2.heap.size = w.heap.size + 1 := by omega
    go_region_held3 (fun w' => w'.cell? ⟨w2.heap.size, 0, none⟩ = some (.int .u64 n) ∧ w'.cell? ⟨w2.heap.size, 1, none⟩ = some (.int .u64 i) ∧ w'.cell? ⟨w2.heap.size, 2, none⟩ = some (.iface t u)) (go_keep) (first
      | (go_at_call 97; refine (Hih.out _ (keeps_of_below (show Below w.heap.size w _ from (by repeat' (first | with_reducible assumption | with_reducible exact Below.refl _ _ | with_reducible refine Below.setCell ?_ ?_ _ | with_reducible refine Below.alloc ?_ ?_ _ | with_reducible refine Below.drew ?_ | with_reducible refine below_drewN ?_ _ | omega | (simp; done) | (simp; omega)))))).mono ?_; rintro e w3 ⟨A3, len3, cap3, rfl, hr3, hb3⟩; have hB3 := keeps_below (show Below w.heap.size w _ from (by repeat' (first | with_reducible assumption | with_reducible exact Below.refl _ _ | with_reducible refine Below.setCell ?_ ?_ _ | with_reducible refine Below.alloc ?_ ?_ _ | with_reducible refine Below.drew ?_ | with_reducible refine below_drewN ?_ _ | omega | (simp; done) | (simp; omega)))) hb3; obtain ⟨hc3, hf3⟩ := bcell hb3; have hz3 := hb3.size; (try simp at hz3); have e30 : w.heap.size < w3.heap.size := (by omega); have e31 : w.heap.size + 1 < w3.heap.size := (by omega); have e32 : w2.heap.size < w3.heap.size + 1 := (by omega); have e33 : w2.heap.size < w3.heap.size := (by omega); have hn3 : ¬ w.heap.size + 1 = w3.heap.size := (by omega); have hn4 : ¬ w2.heap.size = w3.heap.size := (by omega); have HR3 := Lib.hid hr3; clear hr3; unfold vVal))
    have hlo : New w w3.heap.size := by show w.heap.size ≤ _; omega
    go_wp2
    refine bodyPost_ret (v := vVal (.mk 9 n ByteArray.empty .zero (.cons ByteArray.empty (told v) .nil)) (some ⟨w3.heap.size, 0, none⟩) 1 1) ?_ rfl ⟨some ⟨w3.heap.size, 0, none⟩, 1, 1, rfl, ⟨rfl, fun _ => ⟨w3.heap.size, 0, rfl, hlo, ras_single (by simp) (HR3.out.turn (by repeat' (first | with_reducible assumption | with_reducible exact KeepsOn.refl _ _ | with_reducible refine KeepsOn.setCell ?_ ?_ _ | with_reducible refine KeepsOn.alloc ?_ _ | with_reducible refine KeepsOn.drew ?_ | (intro b hb; simp at hb ⊢; omega) | (rintro b ⟨_, hb⟩; simp at hb ⊢; omega) | (rintro b ⟨_, hb⟩; omega))) (fun b hb _ => by simp at hb ⊢; omega))⟩⟩, ?_⟩
    · simp [results, Tryz.results97, go_sem, hc1, hf1, e10, e11, hc2, hf2, e20, e21, Nat.lt_succ_of_lt e21, Nat.lt_succ_of_lt e20, Nat.ne_of_lt e21, Nat.ne_of_lt e20, hc3, hf3, e30, e31, e32, GVal.zero, GTime.zero]; (try rfl); all_goals (repeat' (first | rfl | apply And.intro))
    · exact (below_set7 hB3 (by omega) _ _ _ _ _ _ _).alloc (by simp; omega) _
end

theorem told_mkAny {g : GAny} {a : GVal} (h : toldAny g = a) {w : World} {vs : Array Value} (hc : Calls Tryz.prog 97 vs w (TidyPost a w)) : Calls Tryz.prog 97 vs w (TidyPost (told (.any g)) w) := by
  have e : told (.any g) = toldAny g := by simp only [told]
  rw [e, h]; exact hc

theorem told_any_all {P : Nat → Prop} (g : GAny) (w : World) (y : Value) (h : RAny P w g y) : Calls Tryz.prog 97 #[.agg #[.int .u64 0, y]] w (TidyPost (told (.any g)) w) := by
  cases g with
  | nil => obtain rfl := h; exact told_mkAny rfl (told_any_nil w)
  | err s => obtain rfl := h; exact told_mkAny rfl (told_any_err s w)
  | stringer s => obtain rfl := h; exact told_mkAny rfl (told_any_stringer s w)
  | bytes s =>
    have h' := h
    obtain ⟨A, len, cap, rfl, _⟩ := h'
    exact told_mkAny rfl (told_any_bytes s w A len cap h)
  | text s => obtain rfl := h; exact told_mkAny rfl (told_any_text s w)
  | fails s => obtain rfl := h; exact told_mkAny rfl (told_any_fails s w)
  | number n => obtain rfl := h; exact told_mkAny rfl (told_any_number n w)
  | level n => obtain rfl := h; exact told_mkAny rfl (told_any_level n w)
  | kind n => obtain rfl := h; exact told_mkAny rfl (told_any_kind n w)
  | appender s t => obtain rfl := h; exact told_mkAny rfl (told_any_appender s t w)
  | lacks s => obtain rfl := h; exact told_mkAny rfl (told_any_lacks s w)
  | panics s => obtain rfl := h; exact told_mkAny rfl (told_any_panics s w)
  | pointer => obtain rfl := h; exact told_mkAny rfl (told_any_pointer w)
  | source f s n =>
    have h' := h
    obtain ⟨b, rfl, _⟩ := h'
    exact told_mkAny rfl (told_any_source f s n w b h)
  | nosource => obtain rfl := h; exact told_mkAny rfl (told_any_nosource w)
  | both s t => obtain rfl := h; exact told_mkAny rfl (told_any_both s t w)
  | made s => exact h.elim

theorem told_cast {d : SVal} {a : GVal} (h : told d = a) {w : World} {vs : Array Value} (hc : Calls Tryz.prog 97 vs w (TidyPost a w)) : Calls Tryz.prog 97 vs w (TidyPost (told d) w) := by
  rw [h]; exact hc

theorem told_size : ∀ (N : Nat) (d : SVal), vSize d ≤ N → ToldV d
  | 0, d, hN => absurd hN (by have := vSize_pos d; omega)
  | N + 1, d, hN => by
    intro P w x y hz h
    cases d with
    | num k n =>
      unfold RSV at h
      obtain ⟨rfl, rfl, hk, h0, h1⟩ := h
      rcases hk with rfl | rfl | rfl | rfl | rfl
      · by_cases hn : n = 1
        · subst hn; exact told_cast (by simp [told]) (told_b1 w)
        · exact told_cast (by simp [told, hn]) (told_b0 n w h0 h1 hn)
      · exact told_cast (by simp [told]) (told_dur n w h0 h1)
      · exact told_cast (by simp [told]) (told_float n w h0 h1)
      · exact told_cast (by simp [told]) (told_int n w h0 h1)
      · exact told_cast (by simp [told]) (told_u64 n w h0 h1)
    | str s =>
      unfold RSV at h
      obtain ⟨rfl, rfl⟩ := h
      exact told_cast (by simp [told]) (told_str s w)
    | time t =>
      unfold RSV at h
      obtain ⟨rfl, rfl⟩ := h
      exact told_cast (by simp [told]) (told_time t w)
    | group l =>
      unfold RSV at h
      obtain ⟨A, len, cap, rfl, rfl, hl⟩ := h
      simp only [vSize] at hN hz
      exact told_cast (by simp [told]) (told_group (P := P) l (attrs_told l (fun d hd => told_size N d (by omega))) (by omega) w A len cap hl)
    | any g =>
      unfold RSV at h
      obtain ⟨rfl, h⟩ := h
      exact told_any_all g w y h
    | valuer n v c =>
      unfold RSV at h
      obtain ⟨vx, vy, rfl, rfl, hv⟩ := h
      simp only [vSize] at hN hz
      obtain ⟨i, rfl, hy⟩ := rsv_shape hv
      exact told_cast (by simp [told]) (told_valuer_of (P := P) n v c w i vy hy hv (fun wx hk => told_size N v (by omega) P wx _ _ (by omega) (hv.keep hk)))
    | throws s c =>
      unfold RSV at h
      obtain ⟨rfl, rfl⟩ := h
      exact told_cast (by simp [told]) (told_throws s c w)
/-- impl.told. -/
theorem told_any (d : SVal) : ToldV d := told_size (vSize d) d (Nat.le_refl _)
/-- impl.attrsTold. -/
theorem attrsTold_any (l : SAttrs) : ToldL l := attrs_told l (fun d _ => told_any d)

end Go.Proofs.YtihhgnbgejjijaaGreatDoor.Va
