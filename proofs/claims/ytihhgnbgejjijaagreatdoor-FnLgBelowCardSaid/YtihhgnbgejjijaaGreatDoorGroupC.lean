/- Groups of package slog (isEmptyGroup, countEmptyGroups, GroupValue): the walks. -/
import Derived.Test.YtihhgnbgejjijaaGreatDoorMake
import Derived.Test.YtihhgnbgejjijaaGreatDoorTidyC
import Derived.Maps.AppendAt
namespace Go.Proofs.YtihhgnbgejjijaaGreatDoor.Va
set_option linter.unusedVariables false
set_option linter.unusedSimpArgs false
open Go Go.RowKit

set_option maxRecDepth 100000 in
set_option maxHeartbeats 400000 in
/-- (slog.Value).group. -/
theorem group_any (x : Value) (A : Option Addr) (len cap : Nat) (w : World) (i : Int) (hx : x = .int .u64 i) :
    Calls Tryz.prog 139 #[.agg #[x, .iface 245 (.slice A len cap)]] w fun e w' => e = .returned (.slice A len cap) ∧ Below w.heap.size w w' := by
  subst hx
  go_enter Tryz.func139, Tryz.ntmps139
  go_wp2
  go_ret
  exact ⟨rfl, (by repeat' (first | with_reducible assumption | with_reducible exact Below.refl _ _ | with_reducible refine Below.setCell ?_ ?_ _ | with_reducible refine Below.alloc ?_ ?_ _ | with_reducible refine Below.drew ?_ | with_reducible refine below_drewN ?_ _ | omega | (simp; done) | (simp; omega)))⟩

theorem rsv_num {P : Nat → Prop} {w : World} {d : SVal} {x y : Value} (h : RSV P w d x y) : ∃ i, x = .int .u64 i := by
  cases d <;> unfold RSV at h
  case group => obtain ⟨A, len, cap, rfl, _⟩ := h; exact ⟨_, rfl⟩
  case valuer => obtain ⟨vx, vy, rfl, _⟩ := h; exact ⟨_, rfl⟩
  all_goals exact ⟨_, h.1⟩

theorem rsv_any {P : Nat → Prop} {w : World} {d : SVal} {x y : Value} (h : RSV P w d x y) : y = .nilIface ∨ ∃ t u, y = .iface t u := by
  cases d <;> unfold RSV at h
  case num => obtain ⟨_, rfl, _⟩ := h; exact .inr ⟨_, _, rfl⟩
  case group => obtain ⟨A, len, cap, _, rfl, _⟩ := h; exact .inr ⟨_, _, rfl⟩
  case valuer => obtain ⟨vx, vy, _, rfl, _⟩ := h; exact .inr ⟨_, _, rfl⟩
  case any g =>
    obtain ⟨_, h⟩ := h
    cases g <;> simp only [RAny] at h
    case nil => exact .inl h
    case bytes => obtain ⟨A, len, cap, rfl, _⟩ := h; exact .inr ⟨_, _, rfl⟩
    case source => obtain ⟨b, rfl, _⟩ := h; exact .inr ⟨_, _, rfl⟩
    all_goals exact .inr ⟨_, _, h⟩
  all_goals exact .inr ⟨_, _, h.2⟩

set_option maxRecDepth 100000 in
set_option maxHeartbeats 400000 in
/-- (slog.Value).isEmptyGroup. -/
theorem emptyGroup_any {P : Nat → Prop} (d : SVal) (w : World) (x y : Value) (h : RSV P w d x y) :
    Calls Tryz.prog 110 #[.agg #[x, y]] w fun e w' => e = .returned (.bool d.isEmptyGroup) ∧ Below w.heap.size w w' := by
  obtain ⟨i, hi⟩ := rsv_num h
  have H := Lib.hid h
  by_cases hk : d.kind = 8
  · have hg : ∃ l, d = .group l := by
      cases d with
      | group l => exact ⟨l, rfl⟩
      | num k n => unfold RSV at h; simp only [SVal.kind] at hk; omega
      | _ => simp [SVal.kind] at hk
    obtain ⟨l, rfl⟩ := hg
    unfold RSV at h
    obtain ⟨A, len, cap, rfl, rfl, hlen, hr⟩ := h
    have hl : len = l.len := hlen
    clear hr hi hk hlen
    have Hl := Lib.hid hl
    clear hl
    go_enter Tryz.func110, Tryz.ntmps110
    go_wp2_with (first
      | (go_at_call 133; refine (kind_any (.group l) _ _ _ (H.out.keep (keeps_of_below (by repeat' (first | with_reducible assumption | with_reducible exact Below.refl _ _ | with_reducible refine Below.setCell ?_ ?_ _ | with_reducible refine Below.alloc ?_ ?_ _ | with_reducible refine Below.drew ?_ | with_reducible refine below_drewN ?_ _ | omega | (simp; done) | (simp; omega)))))).mono ?_; rintro e w2 ⟨rfl, hb2⟩; have hB2 := keeps_below (show Below w.heap.size w _ from (by repeat' (first | with_reducible assumption | with_reducible exact Below.refl _ _ | with_reducible refine Below.setCell ?_ ?_ _ | with_reducible refine Below.alloc ?_ ?_ _ | with_reducible refine Below.drew ?_ | with_reducible refine below_drewN ?_ _ | omega | (simp; done) | (simp; omega)))) hb2; obtain ⟨hc2, hf2⟩ := bcell hb2; simp only [SVal.kind])
      | (go_at_call 139; refine (group_any _ A len cap _ _ rfl).mono ?_; rintro e w3 ⟨rfl, hb3⟩; have hB3 := keeps_below (show Below w.heap.size w _ from (by repeat' (first | with_reducible assumption | with_reducible exact Below.refl _ _ | with_reducible refine Below.setCell ?_ ?_ _ | with_reducible refine Below.alloc ?_ ?_ _ | with_reducible refine Below.drew ?_ | with_reducible refine below_drewN ?_ _ | omega | (simp; done) | (simp; omega)))) hb3))
    go_ret
    refine ⟨?_, hB3⟩
    have := Hl.out
    try go_tidy
    cases l with
    | nil => simp [SVal.isEmptyGroup, SAttrs.len] at this ⊢; omega
    | cons k v r => simp [SVal.isEmptyGroup, SAttrs.len] at this ⊢; omega
  · have he : d.isEmptyGroup = false := by cases d <;> simp_all [SVal.kind, SVal.isEmptyGroup]
    subst hi
    rw [he]
    clear h he
    go_enter Tryz.func110, Tryz.ntmps110
    go_wp2_with (go_at_call 133; refine (kind_any d _ _ _ (H.out.keep (keeps_of_below (by repeat' (first | with_reducible assumption | with_reducible exact Below.refl _ _ | with_reducible refine Below.setCell ?_ ?_ _ | with_reducible refine Below.alloc ?_ ?_ _ | with_reducible refine Below.drew ?_ | with_reducible refine below_drewN ?_ _ | omega | (simp; done) | (simp; omega)))))).mono ?_; rintro e w2 ⟨rfl, hb2⟩; have hB2 := keeps_below (show Below w.heap.size w _ from (by repeat' (first | with_reducible assumption | with_reducible exact Below.refl _ _ | with_reducible refine Below.setCell ?_ ?_ _ | with_reducible refine Below.alloc ?_ ?_ _ | with_reducible refine Below.drew ?_ | with_reducible refine below_drewN ?_ _ | omega | (simp; done) | (simp; omega)))) hb2; obtain ⟨hc2, hf2⟩ := bcell hb2)
    all_goals
      go_ret
      exact ⟨rfl, hB2⟩

end Go.Proofs.YtihhgnbgejjijaaGreatDoor.Va

/- Groups of package slog (countEmptyGroups, GroupValue): the walks. -/
namespace Go.Proofs.YtihhgnbgejjijaaGreatDoor.Va
set_option linter.unusedVariables false
set_option linter.unusedSimpArgs false
open Go Go.RowKit

/-- One round. -/
def CountRnd (P : Nat → Prop) (w : World) (l : SAttrs) (b o : Nat) (slot3 slot8 : Value) (wr : World) : Prop :=
  ∃ (k n : Nat) (rest : SAttrs), k + rest.len = l.len ∧ slot8 = .int .i64 k ∧ slot3 = .int .i64 n ∧ n + rest.empties = l.empties ∧ n ≤ k ∧ RSAs P w rest b (o + k * 3) ∧ Below w.heap.size w wr

set_option maxRecDepth 100000 in
set_option maxHeartbeats 400000 in
/-- slog.countEmptyGroups. -/
theorem count_any {P : Nat → Prop} (l : SAttrs) (w : World) (A : Option Addr) (len cap : Nat) (hl : RSS P w l A len) (hlen : len ≤ 140737488355328) :
    Calls Tryz.prog 115 #[.slice A len cap] w fun e w' => e = .returned (.int .i64 l.empties) ∧ Below w.heap.size w w' := by
  obtain ⟨hl0, hl1⟩ := hl
  by_cases hz : len = 0
  · subst hz
    have : l = .nil := by cases l with | nil => rfl | cons => simp [SAttrs.len] at hl0
    subst this
    clear hl0 hl1
    go_enter Tryz.func115, Tryz.ntmps115
    go_wp2
    go_loopw [3, 8] (fun a c wr => a = .int .i64 0 ∧ c = .int .i64 0 ∧ wr = w) (fun _ _ _ => 0)
    case atStart => exact ⟨rfl, rfl, rfl⟩
    case round =>
      obtain ⟨rfl, rfl, rfl⟩ := hrel
      go_wp2
      go_ret
      exact ⟨rfl, Below.refl _ _⟩
  · obtain ⟨b, o, rfl, hp, hr⟩ := hl1 (by omega)
    clear hl1 hp
    have Hl0 := Lib.hid hl0
    clear hl0
    go_enter Tryz.func115, Tryz.ntmps115
    go_wp2
    go_loopw [3, 8] (fun a c wr => CountRnd P w l b o a c wr) (fun _ c _ => len - (intOf c).toNat)
    case atStart => exact ⟨0, 0, l, by omega, rfl, rfl, by omega, Nat.le_refl _, hr, Below.refl _ _⟩
    case round =>
      obtain ⟨k, n, rest, hk, rfl, rfl, hn, hnk, hrs, hB⟩ := hrel
      have hk' := Hl0.out
      have hsize := hB.size
      cases rest with
      | nil =>
        have hke : ¬ ((k : Int) < (len : Int)) := by simp [SAttrs.len] at hk; omega
        have hn' : n = l.empties := by simpa [SAttrs.empties] using hn
        have Hn := Lib.hid hn'
        clear hk hk' hn hn' hrs
        go_wp2
        go_ret
        exact ⟨ret_int (by rw [Hn.out]), hB⟩
      | cons key v r =>
        have hlt : k < len := by simp only [SAttrs.len] at hk; omega
        have hkk : k + 1 + r.len = l.len := by simp only [SAttrs.len] at hk; omega
        unfold RSAs at hrs
        obtain ⟨hkey, ⟨vx, vy, c1, c2, hv⟩, hr'⟩ := hrs
        have Hr := Lib.hid hr'
        have hK := keeps_of_below hB
        have hkey := hK.cell hkey
        have c1 := hK.cell c1
        have c2 := hK.cell c2
        have HV := Lib.hid (hv.keep hK)
        have hvn := rsv_num hv
        obtain ⟨i, rfl⟩ := hvn
        have hva := rsv_any hv
        have Hn := Lib.hid (show n + ((if v.isEmptyGroup then 1 else 0) + r.empties) = l.empties from hn)
        clear hr' hr hv hk hk' hn hK
        rcases hva with rfl | ⟨ty, u, rfl⟩
        all_goals
          by_cases he : v.isEmptyGroup = true
          · go_wp2_with (go_at_call 110; refine (emptyGroup_any v _ _ _ (HV.out.keep (keeps_of_below (by repeat' (first | with_reducible assumption | with_reducible exact Below.refl _ _ | with_reducible refine Below.setCell ?_ ?_ _ | with_reducible refine Below.alloc ?_ ?_ _ | with_reducible refine Below.drew ?_ | with_reducible refine below_drewN ?_ _ | omega | (simp; done) | (simp; omega)))))).mono ?_; rintro e w2 ⟨rfl, hb2⟩; have hB2 := keeps_below (show Below w.heap.size w _ from (by repeat' (first | with_reducible assumption | with_reducible exact Below.refl _ _ | with_reducible refine Below.setCell ?_ ?_ _ | with_reducible refine Below.alloc ?_ ?_ _ | with_reducible refine Below.drew ?_ | with_reducible refine below_drewN ?_ _ | omega | (simp; done) | (simp; omega)))) hb2)
            refine ⟨⟨k + 1, n + 1, r, hkk, by push_cast; rfl, by push_cast; rfl, ?_, by omega, ?_, hB2⟩, ?_⟩
            · have := Hn.out; rw [if_pos he] at this; omega
            · have := Hr.out
              rwa [show o + (k + 1) * 3 = o + k * 3 + 3 by omega]
            · simp only [intOf]; omega
          · have he : v.isEmptyGroup = false := by simpa using he
            go_wp2_with (go_at_call 110; refine (emptyGroup_any v _ _ _ (HV.out.keep (keeps_of_below (by repeat' (first | with_reducible assumption | with_reducible exact Below.refl _ _ | with_reducible refine Below.setCell ?_ ?_ _ | with_reducible refine Below.alloc ?_ ?_ _ | with_reducible refine Below.drew ?_ | with_reducible refine below_drewN ?_ _ | omega | (simp; done) | (simp; omega)))))).mono ?_; rintro e w2 ⟨rfl, hb2⟩; have hB2 := keeps_below (show Below w.heap.size w _ from (by repeat' (first | with_reducible assumption | with_reducible exact Below.refl _ _ | with_reducible refine Below.setCell ?_ ?_ _ | with_reducible refine Below.alloc ?_ ?_ _ | with_reducible refine Below.drew ?_ | with_reducible refine below_drewN ?_ _ | omega | (simp; done) | (simp; omega)))) hb2)
            refine ⟨⟨k + 1, n, r, hkk, by push_cast; rfl, rfl, ?_, by omega, ?_, hB2⟩, ?_⟩
            · have := Hn.out; rw [if_neg (by rw [he]; decide)] at this; omega
            · have := Hr.out
              rwa [show o + (k + 1) * 3 = o + k * 3 + 3 by omega]
            · simp only [intOf]; omega

end Go.Proofs.YtihhgnbgejjijaaGreatDoor.Va

/- Groups of package slog (GroupValue): the walk. -/
namespace Go.Proofs.YtihhgnbgejjijaaGreatDoor.Va
set_option linter.unusedVariables false
set_option linter.unusedSimpArgs false
open Go Go.RowKit

theorem infoSAttr : (Tryz.prog.info? 111).map (fun i => (i.zero, i.size, i.bytes)) = some (some (.agg #[.string ByteArray.empty, .int .u64 0, .nilIface]), 3, 40) := by kernel_rfl

theorem full_none : ∀ l : SAttrs, l.empties = 0 → l.full = l
  | .nil, _ => rfl
  | .cons k v r, h => by
    simp only [SAttrs.empties] at h
    have h1 : ¬ v.isEmptyGroup = true := by intro hv; rw [if_pos hv] at h; omega
    rw [SAttrs.full, if_neg h1, full_none r (by omega)]
theorem full_len : ∀ l : SAttrs, l.full.len + l.empties = l.len
  | .nil => rfl
  | .cons k v r => by
    have := full_len r
    simp only [SAttrs.full, SAttrs.empties, SAttrs.len]
    split <;> (try simp only [SAttrs.len]) <;> omega

/-- What GroupValue hands back. -/
def GroupPost (P : Nat → Prop) (l : SAttrs) (w : World) (e : Ending) (w' : World) : Prop := ∃ x y, e = .returned (.agg #[x, y]) ∧ RSV P w' (.group l) x y ∧ Below w.heap.size w w'

set_option maxRecDepth 100000 in
set_option maxHeartbeats 400000 in
theorem groupValue_none {P : Nat → Prop} (l : SAttrs) (w : World) (A : Option Addr) (len cap : Nat) (hl : RSS P w l A len) (hlen : len ≤ 300000) (he : l.empties = 0) :
    Calls Tryz.prog 131 #[.slice A len cap] w (GroupPost P l.full w) := by
  rw [full_none l he]
  have Hl := Lib.hid (hl.turn (Q := fun b => P b ∧ b < w.heap.size) (KeepsOn.refl _ _) (fun b h h' => ⟨h, h'⟩))
  have He := Lib.hid he
  clear hl he
  unfold GroupPost
  go_enter Tryz.func131, Tryz.ntmps131
  go_wp2_with (go_at_call 115; refine (count_any l _ _ _ _ (Hl.out.keep (keeps_of_below (by repeat' (first | with_reducible assumption | with_reducible exact Below.refl _ _ | with_reducible refine Below.setCell ?_ ?_ _ | with_reducible refine Below.alloc ?_ ?_ _ | with_reducible refine Below.drew ?_ | with_reducible refine below_drewN ?_ _ | omega | (simp; done) | (simp; omega))))) (by omega)).mono ?_; rintro e w2 ⟨rfl, hb2⟩; have hB2 := keeps_below (show Below w.heap.size w _ from (by repeat' (first | with_reducible assumption | with_reducible exact Below.refl _ _ | with_reducible refine Below.setCell ?_ ?_ _ | with_reducible refine Below.alloc ?_ ?_ _ | with_reducible refine Below.drew ?_ | with_reducible refine below_drewN ?_ _ | omega | (simp; done) | (simp; omega)))) hb2; obtain ⟨hc2, hf2⟩ := bcell hb2; have hs2 := hb2.size; simp at hs2; have hl0 : w.heap.size < w2.heap.size := (by omega); rw [He.out])
  have hw : RSV (fun b => P b ∧ b < w.heap.size) w2 (.group l) (.int .u64 len) (.iface 245 (.slice A len cap)) := by
    unfold RSV
    have h := Hl.out.keep (keeps_of_below hB2)
    exact ⟨A, len, cap, rfl, rfl, h.1, h.2⟩
  exact bodyPost_ret (v := .agg #[.int .u64 len, .iface 245 (.slice A len cap)]) (by simp [results, Tryz.results131, go_sem, hc2, hf2, hl0]) rfl ⟨_, _, rfl, hw.turn (by repeat' (first | with_reducible assumption | with_reducible exact KeepsOn.refl _ _ | with_reducible refine KeepsOn.setCell ?_ ?_ _ | with_reducible refine KeepsOn.alloc ?_ _ | with_reducible refine KeepsOn.drew ?_ | (intro b hb; simp at hb ⊢; omega) | (rintro b ⟨_, hb⟩; simp at hb ⊢; omega) | (rintro b ⟨_, hb⟩; omega))) (fun b h _ => h.1), (by repeat' (first | with_reducible assumption | with_reducible exact Below.refl _ _ | with_reducible refine Below.setCell ?_ ?_ _ | with_reducible refine Below.alloc ?_ ?_ _ | with_reducible refine Below.drew ?_ | with_reducible refine below_drewN ?_ _ | omega | (simp; done) | (simp; omega)))⟩

/-- One round: what has been kept, in the call's own row. -/
def KeepRnd (P : Nat → Prop) (w : World) (l : SAttrs) (b o : Nat) (slot4 slot18 : Value) (wr : World) : Prop :=
  ∃ (k : Nat) (rest acc : SAttrs) (n : Nat) (xs : List Value), k + rest.len = l.len ∧ slot18 = .int .i64 k ∧ wr.ownsRow (w.heap.size + 1) 111 3 slot4 n xs ∧ RSX P w acc xs ∧ l.full = SAttrs.append acc rest.full ∧ acc.len ≤ k ∧
    RSAs P w rest b (o + k * 3) ∧ Below (w.heap.size + 1) (w.alloc (.cells #[.int .u64 0, .nilIface] 109)) wr

theorem full_go {k : ByteArray} {v : SVal} {r : SAttrs} (h : v.isEmptyGroup = true) : (SAttrs.cons k v r).full = r.full := by rw [SAttrs.full, if_pos h]
theorem full_stay {k : ByteArray} {v : SVal} {r : SAttrs} (h : v.isEmptyGroup = false) : (SAttrs.cons k v r).full = .cons k v r.full := by rw [SAttrs.full, if_neg (by rw [h]; decide)]

set_option maxRecDepth 100000 in
set_option maxHeartbeats 400000 in
theorem groupValue_some {P : Nat → Prop} (l : SAttrs) (w : World) (A : Option Addr) (len cap : Nat) (hl : RSS P w l A len) (hlen : len ≤ 300000) (he : 0 < l.empties) (hP : ∀ b, w.heap.size ≤ b → P b) :
    Calls Tryz.prog 131 #[.slice A len cap] w (GroupPost P l.full w) := by
  obtain ⟨i0, hi, hz0, hz1, hz2⟩ := info_parts infoSAttr
  have hfl := full_len l
  have hl := hl.turn (Q := fun b => P b ∧ b < w.heap.size) (KeepsOn.refl _ _) (fun b h h' => ⟨h, h'⟩)
  have Hl := Lib.hid hl
  obtain ⟨hl0, hl1⟩ := hl
  obtain ⟨b, o, rfl, hb, hr⟩ := hl1 (by omega)
  have hbw := hb.2
  clear hl1 hb
  have hd : (len : Int) - (l.empties : Int) = ((len - l.empties : Nat) : Int) := by omega
  have Hl0 := Lib.hid hl0
  have Hfl := Lib.hid hfl
  have he2 : (0 : Int) < (l.empties : Int) := by omega
  have he3 : l.empties ≤ len := by omega
  clear hl0 hfl
  generalize hpost : GroupPost P l.full w = post
  have Hpost := Lib.hid hpost
  clear hpost
  go_enter Tryz.func131, Tryz.ntmps131
  go_wp2_with (first
    | (go_at_call 115; refine (count_any l _ _ _ _ (Hl.out.keep (keeps_of_below (by repeat' (first | with_reducible assumption | with_reducible exact Below.refl _ _ | with_reducible refine Below.setCell ?_ ?_ _ | with_reducible refine Below.alloc ?_ ?_ _ | with_reducible refine Below.drew ?_ | with_reducible refine below_drewN ?_ _ | omega | (simp; done) | (simp; omega))))) (by omega)).mono ?_; rintro e w2 ⟨rfl, hb2⟩; have hB2 : Below (w.heap.size + 1) (w.alloc (.cells #[.int .u64 0, .nilIface] 109)) w2 := hb2.mono (by simp))
    | (at_make; (refine wpList_make_own _ rfl _ _ 113 rfl (w.heap.size + 1) 111 i0 _ 3 Tryz.underlying113 hi hz0 hz1 .i64 .i64 _ (len - l.empties) rfl rfl rfl (by rw [hz2]; omega) (by unfold maxLen; omega) (by have := hB2.size; simp at this; omega) ?_); intro w3 hown3 hgrow3; have HO3 := Lib.hid hown3; have hB3 := Below.grown hB2 hgrow3 (by have := hB2.size; simp at this; omega) (by intro k hk; cases hk); clear hown3 hgrow3))
  clear hB2 he he2 he3 hd
  have hrr := Lib.hid hr
  clear hr
  go_loopw [4, 18] (fun a c wr => KeepRnd (fun b => P b ∧ b < w.heap.size) w l b o a c wr) (fun _ c _ => len - (intOf c).toNat)
  case atStart => exact ⟨0, l, .nil, 0, [], by omega, rfl, HO3.out, rfl, rfl, Nat.le_refl _, hrr.out, hB3⟩
  case round =>
    obtain ⟨k, rest, acc, n, xs, hk, rfl, hown, hx, hval, hacc, hrs, hB⟩ := hrel
    have hk' := Hl0.out
    have HX := Lib.hid hx
    have HO := Lib.hid hown
    have Hval := Lib.hid hval
    have hn : n = acc.len := by have h1 := hown.1; have h2 := RSX.len acc xs hx; omega
    have hBw : Below w.heap.size w wr := (show Below w.heap.size w (w.alloc (.cells #[.int .u64 0, .nilIface] 109)) from (by repeat' (first | with_reducible assumption | with_reducible exact Below.refl _ _ | with_reducible refine Below.setCell ?_ ?_ _ | with_reducible refine Below.alloc ?_ ?_ _ | with_reducible refine Below.drew ?_ | with_reducible refine below_drewN ?_ _ | omega | (simp; done) | (simp; omega)))).trans (hB.mono (by omega))
    have hsize : w.heap.size < wr.heap.size := by have := hB.size; simp at this; omega
    have HB := Lib.hid hB
    clear hB3 HO3 hrr
    cases rest with
    | nil =>
      have hke : ¬ ((k : Int) < (len : Int)) := by simp [SAttrs.len] at hk; omega
      obtain ⟨A', cap', rfl, hrsp⟩ := rss_of_owns (Q := fun b => P b ∧ b ≠ w.heap.size) hown (RSX.turn (Q := fun b => P b ∧ b < w.heap.size) (keepsOn_of_below hBw _) (fun _ h _ => h) _ _ hx) (fun b hb => ⟨hb.1, by have := hb.2; omega⟩) (fun b hb => ⟨hP b (by omega), by omega⟩)
      have HR := Lib.hid hrsp
      have hsm : acc.len ≤ 300000 := by simp only [SAttrs.len] at hk; omega
      have hcb : ∀ o', wr.cell? ⟨w.heap.size, o', none⟩ = (w.alloc (.cells #[.int .u64 0, .nilIface] 109)).cell? ⟨w.heap.size, o', none⟩ := fun o' => HB.out.cell (p := ⟨w.heap.size, o', none⟩) (by simp)
      have hfb : ∀ o', wr.frozen? ⟨w.heap.size, o', none⟩ = (w.alloc (.cells #[.int .u64 0, .nilIface] 109)).frozen? ⟨w.heap.size, o', none⟩ := fun o' => HB.out.frozen (p := ⟨w.heap.size, o', none⟩) (by simp)
      clear hown hx hval hk hk' hrsp hrs hB
      go_wp2
      have := Hpost.out
      subst this
      exact bodyPost_ret (v := .agg #[.int .u64 acc.len, .iface 245 (.slice A' acc.len cap')]) (by simp [results, Tryz.results131, go_sem, hcb, hfb, hsize]; try omega) rfl
        ⟨_, _, rfl, by
          have hfull : l.full = acc := by rw [Hval.out]; exact sappend_nil acc
          rw [hfull]
          have h := HR.out.turn (Q := P) (w' := (wr.setCell ⟨w.heap.size, 0, none⟩ (.int .u64 acc.len)).setCell ⟨w.heap.size, 1, none⟩ (.iface 245 (.slice A' acc.len cap'))) (((KeepsOn.refl _ _).setCell (fun b hb => hb.2) _).setCell (fun b hb => hb.2) _) (fun b hb _ => hb.1)
          unfold RSV
          exact ⟨A', acc.len, cap', rfl, rfl, rfl, fun hp => h.2 (by rw [hn]; exact hp)⟩, (by repeat' (first | with_reducible assumption | with_reducible exact Below.refl _ _ | with_reducible refine Below.setCell ?_ ?_ _ | with_reducible refine Below.alloc ?_ ?_ _ | with_reducible refine Below.drew ?_ | with_reducible refine below_drewN ?_ _ | omega | (simp; done) | (simp; omega)))⟩
    | cons key v r =>
      have hlt : k < len := by simp only [SAttrs.len] at hk; omega
      have hkk : k + 1 + r.len = l.len := by simp only [SAttrs.len] at hk; omega
      unfold RSAs at hrs
      obtain ⟨hkey, ⟨vx, vy, c1, c2, hv⟩, hr'⟩ := hrs
      have Hr := Lib.hid hr'
      have hK := keeps_of_below hBw
      have hkey := hK.cell hkey
      have c1 := hK.cell c1
      have c2 := hK.cell c2
      have HV := Lib.hid (hv.keep hK)
      have HV0 := Lib.hid hv
      have hvn := rsv_num hv
      obtain ⟨i, rfl⟩ := hvn
      have hva := rsv_any hv
      have hkn : n + 1 ≤ 300001 := by omega
      clear hr' hv hk hk' hK hB hown hx hval
      rcases hva with rfl | ⟨ty, u, rfl⟩
      · by_cases he : v.isEmptyGroup = true
        · have Hend := Lib.hid (Hval.out.trans (congrArg (SAttrs.append acc) (full_go (k := key) (r := r) he)))
          clear Hval
          go_wp2_with (go_at_call 110; refine (emptyGroup_any v _ _ _ (HV.out.keep (keeps_of_below (by repeat' (first | with_reducible assumption | with_reducible exact Below.refl _ _ | with_reducible refine Below.setCell ?_ ?_ _ | with_reducible refine Below.alloc ?_ ?_ _ | with_reducible refine Below.drew ?_ | with_reducible refine below_drewN ?_ _ | omega | (simp; done) | (simp; omega)))))).mono ?_; rintro e w4 ⟨rfl, hb4⟩; have HB4 := Lib.hid (Below.trans (b := wr.alloc _) (show Below (w.heap.size + 1) (w.alloc (.cells #[.int .u64 0, .nilIface] 109)) (wr.alloc _) from HB.out.alloc (by omega) _) (hb4.mono (by simp; omega))); obtain ⟨hc4, hf4⟩ := bcell hb4; have hs4 := hb4.size; simp at hs4; have hl4 : wr.heap.size < w4.heap.size := (by omega); have HO4 := Lib.hid (own_below (HO.out.alloc _) hb4))
          refine ⟨⟨k + 1, r, acc, n, xs, hkk, by push_cast; rfl, HO4.out, HX.out, Hend.out, by omega, ?_, HB4.out⟩, ?_⟩
          · have := Hr.out
            rwa [show o + (k + 1) * 3 = o + k * 3 + 3 by omega]
          · simp only [intOf]; omega
        · have he : v.isEmptyGroup = false := by simpa using he
          have Hend := Lib.hid (Hval.out.trans (congrArg (SAttrs.append acc) (full_stay (k := key) (r := r) he)))
          clear Hval
          go_wp2_with (first
            | (go_at_call 110; refine (emptyGroup_any v _ _ _ (HV.out.keep (keeps_of_below (by repeat' (first | with_reducible assumption | with_reducible exact Below.refl _ _ | with_reducible refine Below.setCell ?_ ?_ _ | with_reducible refine Below.alloc ?_ ?_ _ | with_reducible refine Below.drew ?_ | with_reducible refine below_drewN ?_ _ | omega | (simp; done) | (simp; omega)))))).mono ?_; rintro e w4 ⟨rfl, hb4⟩; have HB4 := Lib.hid (Below.trans (b := wr.alloc _) (show Below (w.heap.size + 1) (w.alloc (.cells #[.int .u64 0, .nilIface] 109)) (wr.alloc _) from HB.out.alloc (by omega) _) (hb4.mono (by simp; omega))); obtain ⟨hc4, hf4⟩ := bcell hb4; have hs4 := hb4.size; simp at hs4; have hl4 : wr.heap.size < w4.heap.size := (by omega); have HO4 := Lib.hid (own_below (HO.out.alloc _) hb4))
            | (at_builtin; (refine wpList_append_own_at _ rfl (.tmp 26) (.tmp 28) 113 rfl (w.heap.size + 1) 111 i0 _ 3 40 Tryz.underlying113 hi hz0 hz1 hz2 rfl (by decide) _ n xs rfl (HO4.out.alloc _) ⟨_, 0, none⟩ 1 1 [.string key, .int .u64 i, .nilIface] rfl rfl (by intro j u hj; exact cells_new _ _ _ _ (by simp) j u hj) (by intro u hu; simp at hu; rcases hu with rfl | rfl | rfl; all_goals rfl) (by unfold maxLen; omega) (by omega) (by simp; omega) ?_); intro v5 w5 hown5 hgrow5 hiff5 hat5; have HO5 := Lib.hid hown5; have HG5 := Lib.hid hgrow5; clear hown5 hgrow5 hiff5 hat5))
          refine ⟨⟨k + 1, r, SAttrs.snoc acc key v, n + 1, _, hkk, by push_cast; rfl, HO5.out, RSX.snoc HV0.out acc xs HX.out, ?_, ?_, ?_, ?_⟩, ?_⟩
          · rw [ssnoc_append]; exact Hend.out
          · rw [slen_snoc]; omega
          · have := Hr.out
            rwa [show o + (k + 1) * 3 = o + k * 3 + 3 by omega]
          · exact Below.grown (w := w4.alloc _) (HB4.out.alloc (by omega) _) HG5.out (by simp; omega) (fun g hg => (HO.out.lt g hg).1)
          · simp only [intOf]; omega
      · by_cases he : v.isEmptyGroup = true
        · have Hend := Lib.hid (Hval.out.trans (congrArg (SAttrs.append acc) (full_go (k := key) (r := r) he)))
          clear Hval
          go_wp2_with (go_at_call 110; refine (emptyGroup_any v _ _ _ (HV.out.keep (keeps_of_below (by repeat' (first | with_reducible assumption | with_reducible exact Below.refl _ _ | with_reducible refine Below.setCell ?_ ?_ _ | with_reducible refine Below.alloc ?_ ?_ _ | with_reducible refine Below.drew ?_ | with_reducible refine below_drewN ?_ _ | omega | (simp; done) | (simp; omega)))))).mono ?_; rintro e w4 ⟨rfl, hb4⟩; have HB4 := Lib.hid (Below.trans (b := wr.alloc _) (show Below (w.heap.size + 1) (w.alloc (.cells #[.int .u64 0, .nilIface] 109)) (wr.alloc _) from HB.out.alloc (by omega) _) (hb4.mono (by simp; omega))); obtain ⟨hc4, hf4⟩ := bcell hb4; have hs4 := hb4.size; simp at hs4; have hl4 : wr.heap.size < w4.heap.size := (by omega); have HO4 := Lib.hid (own_below (HO.out.alloc _) hb4))
          refine ⟨⟨k + 1, r, acc, n, xs, hkk, by push_cast; rfl, HO4.out, HX.out, Hend.out, by omega, ?_, HB4.out⟩, ?_⟩
          · have := Hr.out
            rwa [show o + (k + 1) * 3 = o + k * 3 + 3 by omega]
          · simp only [intOf]; omega
        · have he : v.isEmptyGroup = false := by simpa using he
          have Hend := Lib.hid (Hval.out.trans (congrArg (SAttrs.append acc) (full_stay (k := key) (r := r) he)))
          clear Hval
          go_wp2_with (first
            | (go_at_call 110; refine (emptyGroup_any v _ _ _ (HV.out.keep (keeps_of_below (by repeat' (first | with_reducible assumption | with_reducible exact Below.refl _ _ | with_reducible refine Below.setCell ?_ ?_ _ | with_reducible refine Below.alloc ?_ ?_ _ | with_reducible refine Below.drew ?_ | with_reducible refine below_drewN ?_ _ | omega | (simp; done) | (simp; omega)))))).mono ?_; rintro e w4 ⟨rfl, hb4⟩; have HB4 := Lib.hid (Below.trans (b := wr.alloc _) (show Below (w.heap.size + 1) (w.alloc (.cells #[.int .u64 0, .nilIface] 109)) (wr.alloc _) from HB.out.alloc (by omega) _) (hb4.mono (by simp; omega))); obtain ⟨hc4, hf4⟩ := bcell hb4; have hs4 := hb4.size; simp at hs4; have hl4 : wr.heap.size < w4.heap.size := (by omega); have HO4 := Lib.hid (own_below (HO.out.alloc _) hb4))
            | (at_builtin; (refine wpList_append_own_at _ rfl (.tmp 26) (.tmp 28) 113 rfl (w.heap.size + 1) 111 i0 _ 3 40 Tryz.underlying113 hi hz0 hz1 hz2 rfl (by decide) _ n xs rfl (HO4.out.alloc _) ⟨_, 0, none⟩ 1 1 [.string key, .int .u64 i, .iface ty u] rfl rfl (by intro j u hj; exact cells_new _ _ _ _ (by simp) j u hj) (by intro u hu; simp at hu; rcases hu with rfl | rfl | rfl; all_goals rfl) (by unfold maxLen; omega) (by omega) (by simp; omega) ?_); intro v5 w5 hown5 hgrow5 hiff5 hat5; have HO5 := Lib.hid hown5; have HG5 := Lib.hid hgrow5; clear hown5 hgrow5 hiff5 hat5))
          refine ⟨⟨k + 1, r, SAttrs.snoc acc key v, n + 1, _, hkk, by push_cast; rfl, HO5.out, RSX.snoc HV0.out acc xs HX.out, ?_, ?_, ?_, ?_⟩, ?_⟩
          · rw [ssnoc_append]; exact Hend.out
          · rw [slen_snoc]; omega
          · have := Hr.out
            rwa [show o + (k + 1) * 3 = o + k * 3 + 3 by omega]
          · exact Below.grown (w := w4.alloc _) (HB4.out.alloc (by omega) _) HG5.out (by simp; omega) (fun g hg => (HO.out.lt g hg).1)
          · simp only [intOf]; omega

end Go.Proofs.YtihhgnbgejjijaaGreatDoor.Va
