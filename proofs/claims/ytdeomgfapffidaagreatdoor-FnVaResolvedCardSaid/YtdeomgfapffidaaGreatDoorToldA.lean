/- What impl.attrsTold tells of a list of attributes of package slog. -/
import Derived.Test.YtdeomgfapffidaaGreatDoorTold
import Derived.Deep.AppendLies
import Derived.Deep.RegionHeldLaw
namespace Go.Proofs.YtdeomgfapffidaaGreatDoor.Va
set_option linter.unusedVariables false
set_option linter.unusedSimpArgs false
open Go Go.RowKit

/- How many values a value of package slog holds, itself too. -/
mutual
def vSize : SVal → Nat
  | .group l => vSizeAll l + 1
  | .valuer _ v _ => vSize v + 1
  | _ => 1
def vSizeAll : SAttrs → Nat
  | .nil => 0
  | .cons _ v r => vSize v + vSizeAll r
end
theorem vSize_pos (d : SVal) : 1 ≤ vSize d := by cases d <;> (unfold vSize; omega)
theorem slen_le : ∀ l : SAttrs, l.len ≤ vSizeAll l
  | .nil => by unfold vSizeAll SAttrs.len; omega
  | .cons _ v r => by have := slen_le r; have := vSize_pos v; unfold vSizeAll SAttrs.len; omega

/-- The contract of impl.told, and of impl.attrsTold. -/
def ToldV (d : SVal) : Prop := ∀ (P : Nat → Prop) (w : World) (x y : Value), vSize d ≤ 700000 → RSV P w d x y → Calls Tryz.prog 44 #[.agg #[x, y]] w (TidyPost (told d) w)
def ToldL (l : SAttrs) : Prop := ∀ (P : Nat → Prop) (w : World) (A : Option Addr) (len cap : Nat), vSizeAll l ≤ 700000 → RSS P w l A len → Calls Tryz.prog 50 #[.slice A len cap] w (ListPost (attrsTold l) w)

/-- One round. -/
def ToldRnd (P : Nat → Prop) (w : World) (l : SAttrs) (b o : Nat) (slot3 slot8 : Value) (wr : World) : Prop :=
  ∃ (k : Nat) (rest : SAttrs) (acc : GAttrs) (n : Nat) (xs : List Value), k + rest.len = l.len ∧ slot8 = .int .i64 k ∧ wr.ownsRow w.heap.size 41 8 slot3 n xs ∧ RXs (Beside w.heap.size slot3) wr acc xs ∧
    attrsTold l = acc.append (attrsTold rest) ∧ acc.len ≤ k ∧ RSAs P w rest b (o + k * 3) ∧ vSizeAll rest ≤ vSizeAll l ∧ Below w.heap.size w wr

theorem attrsTold_nil : attrsTold .nil = .nil := by simp only [attrsTold]
theorem attrsTold_cons (key : ByteArray) (v : SVal) (r : SAttrs) : attrsTold (.cons key v r) = .cons key (told v) (attrsTold r) := by simp only [attrsTold]
theorem ras_keepS {P : Nat → Prop} {w w' : World} (hk : Keeps w w') : ∀ (l : SAttrs) (b o : Nat), RSAs P w l b o → RSAs P w' l b o
  | .nil, _, _, _ => by unfold RSAs; trivial
  | .cons key v r, b, o, h => by
    unfold RSAs at h ⊢
    obtain ⟨h0, ⟨vx, vy, h1, h2, hv⟩, hr⟩ := h
    exact ⟨hk.cell h0, ⟨vx, vy, hk.cell h1, hk.cell h2, hv.keep hk⟩, ras_keepS hk r b (o + 3) hr⟩

set_option maxRecDepth 100000 in
set_option maxHeartbeats 400000 in
theorem attrs_told (l : SAttrs) (ih : ∀ d : SVal, vSize d ≤ vSizeAll l → ToldV d) : ToldL l := by
  intro P w A len cap hsz hl
  obtain ⟨hl0, hl1⟩ := hl
  obtain ⟨i0, hi, hz0, hz1, hz2⟩ := info_parts infoAttr
  by_cases hz : len = 0
  · subst hz
    have : l = .nil := by cases l with | nil => rfl | cons => simp [SAttrs.len] at hl0
    subst this
    clear hl0 hl1
    go_enter Tryz.func50, Tryz.ntmps50
    go_wp2
    go_loopw [3, 8] (fun a c wr => a = .slice none 0 0 ∧ c = .int .i64 0 ∧ wr = w) (fun _ _ _ => 0)
    case atStart => exact ⟨rfl, rfl, rfl⟩
    case round =>
      obtain ⟨rfl, rfl, rfl⟩ := hrel
      go_wp2
      go_ret
      exact ⟨none, 0, 0, rfl, by rw [attrsTold_nil]; exact RSP.nil_ _ _ _, Below.refl _ _⟩
  · obtain ⟨b, o, rfl, _, hr⟩ := hl1 (by omega)
    clear hl1
    have Hl0 := Lib.hid hl0
    clear hl0
    go_enter Tryz.func50, Tryz.ntmps50
    go_wp2
    go_loopw [3, 8] (fun a c wr => ToldRnd P w l b o a c wr) (fun _ c _ => len - (intOf c).toNat)
    case atStart => exact ⟨0, l, .nil, 0, [], by omega, rfl, World.ownsRow_nil _ _ _ _, rfl, rfl, Nat.le_refl _, hr, Nat.le_refl _, Below.refl _ _⟩
    case round =>
      obtain ⟨k, rest, acc, n, xs, hk, rfl, hown, hx, hval, hacc, hrs, hrz, hB⟩ := hrel
      have hk' := Hl0.out
      have HX := Lib.hid hx
      have HO := Lib.hid hown
      have Hval := Lib.hid hval
      have hn : n = acc.len := by have h1 := hown.1; have h2 := RXs.len acc xs hx; omega
      have hll := slen_le l
      have hsize := hB.size
      cases rest with
      | nil =>
        have hke : ¬ ((k : Int) < (len : Int)) := by simp [SAttrs.len] at hk; omega
        obtain ⟨A', cap', rfl, hrsp⟩ := rsp_of_owns (Q := New w) hown hx (fun b hb => hb.1) (fun b hb => hb)
        have HR := Lib.hid hrsp
        clear hown hx hval hk hk' hrsp hrs hn
        go_wp2
        go_ret
        refine ⟨A', _, cap', rfl, ?_, hB⟩
        rw [Hval.out, attrsTold_nil, append_nil]; exact HR.out
      | cons key v r =>
        have hlt : k < len := by simp only [SAttrs.len] at hk; omega
        have hkk : k + 1 + r.len = l.len := by simp only [SAttrs.len] at hk; omega
        have hvs : vSize v + vSizeAll r ≤ vSizeAll l := by simpa only [vSizeAll] using hrz
        have hrle : vSizeAll r ≤ vSizeAll l := by omega
        have hvle : vSize v ≤ 700000 := by omega
        have Hih := Lib.hid (ih v (by omega))
        have hrs' := ras_keepS (keeps_of_below hB) _ _ _ hrs
        unfold RSAs at hrs hrs'
        have Hr := Lib.hid hrs.2.2
        obtain ⟨hkey, ⟨vx, vy, h1, h2, hv⟩, _⟩ := hrs'
        obtain ⟨i, rfl, hy⟩ := rsv_shape hv
        have HV := Lib.hid hv
        have hbb : b < wr.heap.size := World.block_lt_of_cell? wr _ hkey
        have Hend := Lib.hid (Hval.out.trans (congrArg acc.append (attrsTold_cons key v r)))
        have hkn : n + 1 ≤ 700000 := by omega
        have HLT := Lib.hid (fun g hg => (hown.lt g hg).2)
        clear hr ih hown hx hval hk hk' hrz hvs Hval hn hrs hv
        rcases hy with rfl | ⟨t, u, rfl⟩
        · go_wp2
          go_region_held_law (fun w' => w'.cell? ⟨wr.heap.size, 0, none⟩ = some (.string key) ∧ w'.cell? ⟨wr.heap.size, 1, none⟩ = some (.int .u64 i) ∧ w'.cell? ⟨wr.heap.size, 2, none⟩ = some (.nilIface)) (go_keep) (first
            | (refine step_append_lies _ rfl (.tmp 12) (.tmp 19) 25 rfl w.heap.size 41 i0 _ 8 96 Tryz.underlying25 hi hz0 hz1 hz2 rfl (by decide) _ n xs rfl (HO2.out.alloc _) ⟨_, 0, none⟩ 1 1 [.string key, .int .i64 (told v).kind, .int .u64 (told v).n, .string (told v).s, .int .i64 (told v).t.sec, .int .i64 (told v).t.nsec, .int .i64 (told v).t.off, .slice A2 len2 cap2] rfl rfl (by intro j u hj; exact cells_new _ _ _ _ (by simp) j u hj) (by intro u hu; simp at hu; rcases hu with rfl | rfl | rfl | rfl | rfl | rfl | rfl | rfl; all_goals rfl) (by decide) (by unfold maxLen; omega) (by omega) (by simp; omega) _ rfl ?_; intro g cap3 w3 hown3 hgrow3 hat3 hlt3; have hc3 : ∀ o', w3.cell? ⟨wr.heap.size, o', none⟩ = w2.cell? ⟨wr.heap.size, o', none⟩ := (fun o' => (World.cell?_of_block (a := ⟨wr.heap.size, o', none⟩) (hgrow3.block wr.heap.size (by simp; omega) (fun e => by have := HLT.out _ e.symm; omega))).trans (World.cell?_of_block (a := ⟨wr.heap.size, o', none⟩) (Below.heap_alloc w2 _ _ hl2))); have HO3 := Lib.hid hown3; have HG3 := Lib.hid hgrow3; have HA3 := Lib.hid hat3; clear hown3 hgrow3 hat3 hlt3)
            | (go_at_call 44; refine (Hih.out _ _ _ _ hvle (HV.out.keep (keeps_of_below (by repeat' (first | with_reducible assumption | with_reducible exact Below.refl _ _ | with_reducible refine Below.setCell ?_ ?_ _ | with_reducible refine Below.alloc ?_ ?_ _ | with_reducible refine Below.drew ?_ | with_reducible refine below_drewN ?_ _ | omega | (simp; done) | (simp; omega)))))).mono ?_; rintro e w2 ⟨A2, len2, cap2, rfl, hr2, hb2⟩; have HR2 := Lib.hid hr2; have HB2 := Lib.hid (keeps_below (show Below w.heap.size w _ from (by repeat' (first | with_reducible assumption | with_reducible exact Below.refl _ _ | with_reducible refine Below.setCell ?_ ?_ _ | with_reducible refine Below.alloc ?_ ?_ _ | with_reducible refine Below.drew ?_ | with_reducible refine below_drewN ?_ _ | omega | (simp; done) | (simp; omega)))) hb2); have HBr := Lib.hid (keeps_below (show Below wr.heap.size wr _ from (by repeat' (first | with_reducible assumption | with_reducible exact Below.refl _ _ | with_reducible refine Below.setCell ?_ ?_ _ | with_reducible refine Below.alloc ?_ ?_ _ | with_reducible refine Below.drew ?_ | with_reducible refine below_drewN ?_ _ | omega | (simp; done) | (simp; omega)))) hb2); obtain ⟨hc2, hf2⟩ := bcell hb2; have hs2 := hb2.size; simp at hs2; have hl2 : wr.heap.size < w2.heap.size := (by omega); have HO2 := Lib.hid (own_below ((HO.out.alloc _).drew) hb2); clear hr2; unfold vVal))
          go_wp2
          refine ⟨⟨k + 1, r, acc.snoc key (told v), n + 1, _, hkk, by push_cast; rfl, HO3.out, ?_, ?_, ?_, ?_, hrle, ?_⟩, ?_⟩
          · exact tidy_snoc (RXs.turn (keepsOn_of_below HBr.out _) (fun _ h _ => h) _ _ HX.out) HR2.out (fun g hg => by have := HLT.out g hg; simp; omega) (by simp; omega) (fun P => (KeepsOn.refl P _).alloc _) (by simp) HG3.out (HA3.out.elim (fun h => .inl h.symm) (fun h => .inr (by rw [← h]; rfl)))
          · rw [snoc_append]; exact Hend.out
          · rw [len_snoc]; omega
          · have := Hr.out
            rwa [show o + (k + 1) * 3 = o + k * 3 + 3 by omega]
          · exact Below.grown (HB2.out.alloc (by omega) _) HG3.out (by simp; omega) (fun g hg => (HO.out.lt g hg).1)
          · simp only [intOf]; omega
        · go_wp2
          go_region_held_law (fun w' => w'.cell? ⟨wr.heap.size, 0, none⟩ = some (.string key) ∧ w'.cell? ⟨wr.heap.size, 1, none⟩ = some (.int .u64 i) ∧ w'.cell? ⟨wr.heap.size, 2, none⟩ = some (.iface t u)) (go_keep) (first
            | (refine step_append_lies _ rfl (.tmp 12) (.tmp 19) 25 rfl w.heap.size 41 i0 _ 8 96 Tryz.underlying25 hi hz0 hz1 hz2 rfl (by decide) _ n xs rfl (HO2.out.alloc _) ⟨_, 0, none⟩ 1 1 [.string key, .int .i64 (told v).kind, .int .u64 (told v).n, .string (told v).s, .int .i64 (told v).t.sec, .int .i64 (told v).t.nsec, .int .i64 (told v).t.off, .slice A2 len2 cap2] rfl rfl (by intro j u hj; exact cells_new _ _ _ _ (by simp) j u hj) (by intro u hu; simp at hu; rcases hu with rfl | rfl | rfl | rfl | rfl | rfl | rfl | rfl; all_goals rfl) (by decide) (by unfold maxLen; omega) (by omega) (by simp; omega) _ rfl ?_; intro g cap3 w3 hown3 hgrow3 hat3 hlt3; have hc3 : ∀ o', w3.cell? ⟨wr.heap.size, o', none⟩ = w2.cell? ⟨wr.heap.size, o', none⟩ := (fun o' => (World.cell?_of_block (a := ⟨wr.heap.size, o', none⟩) (hgrow3.block wr.heap.size (by simp; omega) (fun e => by have := HLT.out _ e.symm; omega))).trans (World.cell?_of_block (a := ⟨wr.heap.size, o', none⟩) (Below.heap_alloc w2 _ _ hl2))); have HO3 := Lib.hid hown3; have HG3 := Lib.hid hgrow3; have HA3 := Lib.hid hat3; clear hown3 hgrow3 hat3 hlt3)
            | (go_at_call 44; refine (Hih.out _ _ _ _ hvle (HV.out.keep (keeps_of_below (by repeat' (first | with_reducible assumption | with_reducible exact Below.refl _ _ | with_reducible refine Below.setCell ?_ ?_ _ | with_reducible refine Below.alloc ?_ ?_ _ | with_reducible refine Below.drew ?_ | with_reducible refine below_drewN ?_ _ | omega | (simp; done) | (simp; omega)))))).mono ?_; rintro e w2 ⟨A2, len2, cap2, rfl, hr2, hb2⟩; have HR2 := Lib.hid hr2; have HB2 := Lib.hid (keeps_below (show Below w.heap.size w _ from (by repeat' (first | with_reducible assumption | with_reducible exact Below.refl _ _ | with_reducible refine Below.setCell ?_ ?_ _ | with_reducible refine Below.alloc ?_ ?_ _ | with_reducible refine Below.drew ?_ | with_reducible refine below_drewN ?_ _ | omega | (simp; done) | (simp; omega)))) hb2); have HBr := Lib.hid (keeps_below (show Below wr.heap.size wr _ from (by repeat' (first | with_reducible assumption | with_reducible exact Below.refl _ _ | with_reducible refine Below.setCell ?_ ?_ _ | with_reducible refine Below.alloc ?_ ?_ _ | with_reducible refine Below.drew ?_ | with_reducible refine below_drewN ?_ _ | omega | (simp; done) | (simp; omega)))) hb2); obtain ⟨hc2, hf2⟩ := bcell hb2; have hs2 := hb2.size; simp at hs2; have hl2 : wr.heap.size < w2.heap.size := (by omega); have HO2 := Lib.hid (own_below ((HO.out.alloc _).drew) hb2); clear hr2; unfold vVal))
          go_wp2
          refine ⟨⟨k + 1, r, acc.snoc key (told v), n + 1, _, hkk, by push_cast; rfl, HO3.out, ?_, ?_, ?_, ?_, hrle, ?_⟩, ?_⟩
          · exact tidy_snoc (RXs.turn (keepsOn_of_below HBr.out _) (fun _ h _ => h) _ _ HX.out) HR2.out (fun g hg => by have := HLT.out g hg; simp; omega) (by simp; omega) (fun P => (KeepsOn.refl P _).alloc _) (by simp) HG3.out (HA3.out.elim (fun h => .inl h.symm) (fun h => .inr (by rw [← h]; rfl)))
          · rw [snoc_append]; exact Hend.out
          · rw [len_snoc]; omega
          · have := Hr.out
            rwa [show o + (k + 1) * 3 = o + k * 3 + 3 by omega]
          · exact Below.grown (HB2.out.alloc (by omega) _) HG3.out (by simp; omega) (fun g hg => (HO.out.lt g hg).1)
          · simp only [intOf]; omega

end Go.Proofs.YtdeomgfapffidaaGreatDoor.Va
