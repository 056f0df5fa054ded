/- Arguments (Arg of package impl): plain data, and how they lie in memory. -/
import Derived.Test.YtihhgnbgejjijaaGreatDoorLeft
import Derived.Test.YtihhgnbgejjijaaGreatDoorTidyC
import Derived.Test.YtihhgnbgejjijaaGreatDoorGood
import Derived.Deep.AppendLies
import Derived.Deep.RegionHeldLaw
namespace Go.Proofs.YtihhgnbgejjijaaGreatDoor.Va
set_option linter.unusedVariables false
set_option linter.unusedSimpArgs false
open Go Go.RowKit

structure GArg where
  what : Int
  key : ByteArray
  val : GVal

/-- A row of Args from a place on. -/
def RArgs (w : World) : List GArg → Nat → Nat → Prop
  | [], _, _ => True
  | a :: r, b, o => w.cell? ⟨b, o, none⟩ = some (.int .i64 a.what) ∧ w.cell? ⟨b, o + 1, none⟩ = some (.string a.key) ∧ RVal w a.val b (o + 2) ∧ RArgs w r b (o + 9)
def RArgS (w : World) (l : List GArg) (A : Option Addr) (len : Nat) : Prop := len = l.length ∧ (0 < len → ∃ b o, A = some ⟨b, o, none⟩ ∧ RArgs w l b o)
theorem RArgs.keep {w w' : World} (hk : Keeps w w') : ∀ (l : List GArg) (b o : Nat), RArgs w l b o → RArgs w' l b o
  | [], _, _, _ => trivial
  | a :: r, b, o, h => ⟨hk.cell h.1, hk.cell h.2.1, h.2.2.1.keep hk, RArgs.keep hk r b (o + 9) h.2.2.2⟩
theorem RArgS.keep {w w' : World} {l : List GArg} {A : Option Addr} {len : Nat} (h : RArgS w l A len) (hk : Keeps w w') : RArgS w' l A len :=
  ⟨h.1, fun hp => by obtain ⟨b, o, e, hr⟩ := h.2 hp; exact ⟨b, o, e, RArgs.keep hk l b o hr⟩⟩

def argWf (a : GArg) : Prop := (-9223372036854775808 ≤ a.what ∧ a.what ≤ 9223372036854775807) ∧ a.key.size ≤ 140737488355328 ∧ a.val.wf
def argsWf : List GArg → Prop
  | [] => True
  | a :: r => argWf a ∧ argsWf r

/-- spec.RcLeft, 20 deep. -/
def rcLeft : List GArg → Bool → Int → Int
  | [], _, left => left
  | a :: r, taken, left =>
    if left - a.key.size < 0 ∨ a.what < 0 ∨ 2 < a.what ∨ (taken = true ∧ a.what = 0) then -1
    else if vaLeft a.val 20 (left - a.key.size) < 0 then -1
    else rcLeft r (!taken && decide (a.what = 1) && decide (a.val.kind = 5)) (vaLeft a.val 20 (left - a.key.size))
theorem rcLeft_nil (t : Bool) (left : Int) : rcLeft [] t left = left := rfl
theorem rcLeft_no {a : GArg} {r : List GArg} {t : Bool} {left : Int} (h : left - a.key.size < 0 ∨ a.what < 0 ∨ 2 < a.what ∨ (t = true ∧ a.what = 0)) : rcLeft (a :: r) t left = -1 := by rw [rcLeft, if_pos h]
theorem rcLeft_val {a : GArg} {r : List GArg} {t : Bool} {left : Int} (h : ¬ (left - a.key.size < 0 ∨ a.what < 0 ∨ 2 < a.what ∨ (t = true ∧ a.what = 0))) (h2 : vaLeft a.val 20 (left - a.key.size) < 0) : rcLeft (a :: r) t left = -1 := by rw [rcLeft, if_neg h, if_pos h2]
theorem rcLeft_on {a : GArg} {r : List GArg} {t : Bool} {left : Int} (h : ¬ (left - a.key.size < 0 ∨ a.what < 0 ∨ 2 < a.what ∨ (t = true ∧ a.what = 0))) (h2 : ¬ vaLeft a.val 20 (left - a.key.size) < 0) :
    rcLeft (a :: r) t left = rcLeft r (!t && decide (a.what = 1) && decide (a.val.kind = 5)) (vaLeft a.val 20 (left - a.key.size)) := by rw [rcLeft, if_neg h, if_neg h2]

/-- One round. -/
def RcRnd (w : World) (l : List GArg) (b o : Nat) (left0 : Int) (s2 s7 s12 : Value) (wr : World) : Prop :=
  ∃ (k : Nat) (rest : List GArg) (t : Bool) (left : Int), k + rest.length = l.length ∧ s12 = .int .i64 k ∧ s7 = .bool t ∧ s2 = .int .i64 left ∧ 0 ≤ left ∧ left ≤ 65536 ∧ rcLeft l false left0 = rcLeft rest t left ∧ RArgs w rest b (o + k * 9) ∧ argsWf rest ∧ Below w.heap.size w wr

set_option maxRecDepth 100000 in
set_option maxHeartbeats 1000000 in
/-- spec.RcLeft. -/
theorem rcLeft_any (l : List GArg) (w : World) (left : Int) (A : Option Addr) (len cap : Nat) (hw : argsWf l) (hl : RArgS w l A len) (hlen : len ≤ 140737488355328) (h0 : 0 ≤ left) (h1 : left ≤ 65536) :
    Calls Tryz.prog 38 #[.slice A len cap, .int .i64 20, .int .i64 left] w fun e w' => e = .returned (.int .i64 (rcLeft l false left)) ∧ Below w.heap.size w w' := by
  obtain ⟨hl0, hl1⟩ := hl
  by_cases hz : len = 0
  · subst hz
    have : l = [] := List.length_eq_zero_iff.1 hl0.symm
    subst this
    clear hl0 hl1
    go_enter Tryz.func38, Tryz.ntmps38
    go_wp2
    go_loopw [2, 7, 12] (fun x t a wr => x = .int .i64 left ∧ t = .bool false ∧ a = .int .i64 0 ∧ wr = w) (fun _ _ _ _ => 0)
    case atStart => exact ⟨rfl, rfl, rfl, rfl⟩
    case round =>
      obtain ⟨rfl, rfl, rfl, rfl⟩ := hrel
      go_wp2
      go_ret
      exact ⟨rfl, Below.refl _ _⟩
  · obtain ⟨b, o, rfl, hr⟩ := hl1 (by omega)
    clear hl1
    have Hl0 := Lib.hid hl0
    clear hl0
    obtain ⟨Q, hQ⟩ : ∃ Q : Ending → World → Prop, Q = fun e w' => e = .returned (.int .i64 (rcLeft l false left)) ∧ Below w.heap.size w w' := ⟨_, rfl⟩
    rw [← hQ]
    have HQ := Lib.hid hQ
    clear hQ
    go_enter Tryz.func38, Tryz.ntmps38
    go_wp2
    go_loopw [2, 7, 12] (fun x t a wr => RcRnd w l b o left x t a wr) (fun _ _ a _ => len - (intOf a).toNat)
    case atStart => exact ⟨0, l, false, left, by omega, rfl, rfl, rfl, h0, h1, rfl, hr, hw, Below.refl _ _⟩
    case round =>
      obtain ⟨k, rest, t, left', hk, rfl, rfl, rfl, g0, g1, hval, hrs, hrw, hB⟩ := hrel
      have hk' := Hl0.out
      have Hval := Lib.hid hval
      clear hval hr hw h0 h1
      cases rest with
      | nil =>
        have hke : ¬ ((k : Int) < (len : Int)) := by simp at hk; omega
        clear hk hk' hrs hrw
        go_wp2
        rw [HQ.out]
        refine ⟨?_, hB⟩
        rw [Hval.out, rcLeft_nil]
      | cons a r =>
        have hlt : k < len := by simp only [List.length_cons] at hk; omega
        have hkk : k + 1 + r.length = l.length := by simp only [List.length_cons] at hk; omega
        obtain ⟨what, key, val⟩ := a
        obtain ⟨⟨⟨wa1, wa2⟩, wk, wv⟩, Wr⟩ := hrw
        obtain ⟨hwhat, hkey, hv, hr'⟩ := hrs
        have HW := Lib.hid Wr
        have HWv := Lib.hid wv
        have HRr := Lib.hid hr'
        have hK := keeps_of_below hB
        have hwhat := hK.cell hwhat
        have hkey := hK.cell hkey
        have hv := hv.keep hK
        have hbb : b < wr.heap.size := World.block_lt_of_cell? wr _ hwhat
        have hsz := hB.size
        have HLv := Lib.hid (left_any val)
        have hle := vaLeft_le val 20 (left' - key.size)
        clear hk hk' Wr wv hr' hK
        simp only at hwhat hkey hv wk wa1 wa2
        obtain ⟨vk, vn, vs, vt, vl⟩ := val
        unfold RVal at hv
        obtain ⟨c0, c1, c2, c3, c4, c5, Av, lenv, capv, c6, hlenv, hAv⟩ := hv
        have HSv := Lib.hid (show RS wr vl Av lenv from ⟨hlenv, hAv⟩)
        clear hlenv hAv
        by_cases hno : left' - key.size < 0 ∨ what < 0 ∨ 2 < what ∨ (t = true ∧ what = 0)
        · have HE := Lib.hid (Hval.out.trans (rcLeft_no (a := ⟨what, key, .mk vk vn vs vt vl⟩) (r := r) hno))
          clear Hval
          by_cases q1 : left' - key.size < 0
          · go_wp2
            rw [HQ.out]
            exact ⟨by rw [HE.out], (by repeat' (first | with_reducible assumption | with_reducible exact Below.refl _ _ | with_reducible refine Below.setCell ?_ ?_ _ | with_reducible refine Below.alloc ?_ ?_ _ | with_reducible refine Below.drew ?_ | with_reducible refine below_drewN ?_ _ | omega | (simp; done) | (simp; omega)))⟩
          by_cases q2 : what < 0
          · go_wp2
            rw [HQ.out]
            exact ⟨by rw [HE.out], (by repeat' (first | with_reducible assumption | with_reducible exact Below.refl _ _ | with_reducible refine Below.setCell ?_ ?_ _ | with_reducible refine Below.alloc ?_ ?_ _ | with_reducible refine Below.drew ?_ | with_reducible refine below_drewN ?_ _ | omega | (simp; done) | (simp; omega)))⟩
          by_cases q3 : 2 < what
          · go_wp2
            rw [HQ.out]
            exact ⟨by rw [HE.out], (by repeat' (first | with_reducible assumption | with_reducible exact Below.refl _ _ | with_reducible refine Below.setCell ?_ ?_ _ | with_reducible refine Below.alloc ?_ ?_ _ | with_reducible refine Below.drew ?_ | with_reducible refine below_drewN ?_ _ | omega | (simp; done) | (simp; omega)))⟩
          have q4 : t = true ∧ what = 0 := by
            rcases hno with h | h | h | h
            · exact absurd h q1
            · exact absurd h q2
            · exact absurd h q3
            · exact h
          obtain ⟨rfl, rfl⟩ := q4
          clear hno
          go_wp2
          rw [HQ.out]
          exact ⟨by rw [HE.out], (by repeat' (first | with_reducible assumption | with_reducible exact Below.refl _ _ | with_reducible refine Below.setCell ?_ ?_ _ | with_reducible refine Below.alloc ?_ ?_ _ | with_reducible refine Below.drew ?_ | with_reducible refine below_drewN ?_ _ | omega | (simp; done) | (simp; omega)))⟩
        · have q1 : ¬ left' - key.size < 0 := fun h => hno (.inl h)
          have q2 : 0 ≤ left' - key.size := by omega
          have q3 : left' - key.size ≤ 65536 := by omega
          have hws : (what = 0 ∧ t = false) ∨ (what = 1 ∧ t = true) ∨ (what = 1 ∧ t = false) ∨ (what = 2 ∧ t = true) ∨ (what = 2 ∧ t = false) := by cases t <;> simp at hno ⊢ <;> omega
          by_cases hneg : vaLeft (.mk vk vn vs vt vl) 20 (left' - key.size) < 0
          · have HE := Lib.hid (Hval.out.trans (rcLeft_val (a := ⟨what, key, .mk vk vn vs vt vl⟩) (r := r) hno hneg))
            clear Hval hno
            rcases hws with ⟨rfl, rfl⟩ | ⟨rfl, rfl⟩ | ⟨rfl, rfl⟩ | ⟨rfl, rfl⟩ | ⟨rfl, rfl⟩
            all_goals
              go_wp2_with (go_at_call 89; refine (HLv.out _ _ _ _ _ _ HWv.out (HSv.out.keep (keeps_of_below (by repeat' (first | with_reducible assumption | with_reducible exact Below.refl _ _ | with_reducible refine Below.setCell ?_ ?_ _ | with_reducible refine Below.alloc ?_ ?_ _ | with_reducible refine Below.drew ?_ | with_reducible refine below_drewN ?_ _ | omega | (simp; done) | (simp; omega))))) (by omega) (by omega) (by omega) (by omega)).mono ?_; rintro e w2 ⟨rfl, hb2⟩; have hB2 := keeps_below (show Below w.heap.size w _ from (by repeat' (first | with_reducible assumption | with_reducible exact Below.refl _ _ | with_reducible refine Below.setCell ?_ ?_ _ | with_reducible refine Below.alloc ?_ ?_ _ | with_reducible refine Below.drew ?_ | with_reducible refine below_drewN ?_ _ | omega | (simp; done) | (simp; omega)))) hb2)
              rw [HQ.out]
              exact ⟨by rw [HE.out]; rfl, hB2⟩
          · have HE := Lib.hid (Hval.out.trans (rcLeft_on (a := ⟨what, key, .mk vk vn vs vt vl⟩) (r := r) hno hneg))
            have hle' := hle (by omega)
            clear Hval hno hle
            rcases hws with ⟨rfl, rfl⟩ | ⟨rfl, rfl⟩ | ⟨rfl, rfl⟩ | ⟨rfl, rfl⟩ | ⟨rfl, rfl⟩
            all_goals
              by_cases hk5 : vk = 5
              · have hk5' : (vk == 5) = true := by simp [hk5]
                have HK := Lib.hid hk5
                clear hk5
                go_wp2_with (go_at_call 89; refine (HLv.out _ _ _ _ _ _ HWv.out (HSv.out.keep (keeps_of_below (by repeat' (first | with_reducible assumption | with_reducible exact Below.refl _ _ | with_reducible refine Below.setCell ?_ ?_ _ | with_reducible refine Below.alloc ?_ ?_ _ | with_reducible refine Below.drew ?_ | with_reducible refine below_drewN ?_ _ | omega | (simp; done) | (simp; omega))))) (by omega) (by omega) (by omega) (by omega)).mono ?_; rintro e w2 ⟨rfl, hb2⟩; have hB2 := keeps_below (show Below w.heap.size w _ from (by repeat' (first | with_reducible assumption | with_reducible exact Below.refl _ _ | with_reducible refine Below.setCell ?_ ?_ _ | with_reducible refine Below.alloc ?_ ?_ _ | with_reducible refine Below.drew ?_ | with_reducible refine below_drewN ?_ _ | omega | (simp; done) | (simp; omega)))) hb2; obtain ⟨hc2, hf2⟩ := bcell hb2)
                refine ⟨⟨k + 1, r, _, _, hkk, by push_cast; rfl, rfl, rfl, by omega, by omega, ?_, ?_, HW.out, hB2⟩, ?_⟩
                · rw [HE.out]; simp [HK.out, kind_mk]
                · have := HRr.out
                  rwa [show o + (k + 1) * 9 = o + k * 9 + 9 by omega]
                · simp only [intOf]; omega
              · have hk5' : (vk == 5) = false := by simp [hk5]
                have HK := Lib.hid hk5
                clear hk5
                go_wp2_with (go_at_call 89; refine (HLv.out _ _ _ _ _ _ HWv.out (HSv.out.keep (keeps_of_below (by repeat' (first | with_reducible assumption | with_reducible exact Below.refl _ _ | with_reducible refine Below.setCell ?_ ?_ _ | with_reducible refine Below.alloc ?_ ?_ _ | with_reducible refine Below.drew ?_ | with_reducible refine below_drewN ?_ _ | omega | (simp; done) | (simp; omega))))) (by omega) (by omega) (by omega) (by omega)).mono ?_; rintro e w2 ⟨rfl, hb2⟩; have hB2 := keeps_below (show Below w.heap.size w _ from (by repeat' (first | with_reducible assumption | with_reducible exact Below.refl _ _ | with_reducible refine Below.setCell ?_ ?_ _ | with_reducible refine Below.alloc ?_ ?_ _ | with_reducible refine Below.drew ?_ | with_reducible refine below_drewN ?_ _ | omega | (simp; done) | (simp; omega)))) hb2; obtain ⟨hc2, hf2⟩ := bcell hb2)
                refine ⟨⟨k + 1, r, _, _, hkk, by push_cast; rfl, rfl, rfl, by omega, by omega, ?_, ?_, HW.out, hB2⟩, ?_⟩
                · rw [HE.out]; simp [HK.out, kind_mk]
                · have := HRr.out
                  rwa [show o + (k + 1) * 9 = o + k * 9 + 9 by omega]
                · simp only [intOf]; omega

end Go.Proofs.YtihhgnbgejjijaaGreatDoor.Va

/- The attributes that arguments are (spec.RcArgs): plain data and the walk. -/
namespace Go.Proofs.YtihhgnbgejjijaaGreatDoor.Va
set_option linter.unusedVariables false
set_option linter.unusedSimpArgs false
open Go Go.RowKit

def badKey : ByteArray := ⟨#[33, 66, 65, 68, 75, 69, 89]⟩

/-- The attributes that arguments are, with their values as they came. -/
def rcRaw : List GArg → GAttrs
  | [] => .nil
  | [a] => .cons (if a.what = 0 then a.key else badKey) a.val .nil
  | a :: b :: r => if a.what = 0 then .cons a.key a.val (rcRaw (b :: r)) else if a.what = 1 ∧ a.val.kind = 5 then .cons a.val.s b.val (rcRaw r) else .cons badKey a.val (rcRaw (b :: r))
theorem rcRaw_attr {a : GArg} {r : List GArg} (h : a.what = 0) : rcRaw (a :: r) = .cons a.key a.val (rcRaw r) := by
  cases r with
  | nil => simp only [rcRaw, if_pos h]
  | cons b r => rw [rcRaw, if_pos h]
theorem rcRaw_pair {a b : GArg} {r : List GArg} (h : a.what = 1) (h2 : a.val.kind = 5) : rcRaw (a :: b :: r) = .cons a.val.s b.val (rcRaw r) := by
  rw [rcRaw, if_neg (by omega), if_pos ⟨h, h2⟩]
theorem rcRaw_last {a : GArg} (h : a.what ≠ 0) : rcRaw [a] = .cons badKey a.val .nil := by
  simp only [rcRaw, if_neg h]
theorem rcRaw_bad {a : GArg} {r : List GArg} (h : a.what ≠ 0) (h2 : ¬ (a.what = 1 ∧ a.val.kind = 5)) : rcRaw (a :: r) = .cons badKey a.val (rcRaw r) := by
  cases r with
  | nil => simp only [rcRaw, if_neg h]
  | cons b r => rw [rcRaw, if_neg h, if_neg h2]
theorem tidyMap_nil : tidyMap .nil = .nil := rfl
theorem tidyMap_cons {k : ByteArray} {v : GVal} {r : GAttrs} : tidyMap (.cons k v r) = .cons k (vaTidy v) (tidyMap r) := rfl

def argsSize : List GArg → Nat
  | [] => 0
  | a :: r => a.val.size + argsSize r
def lenOf : Value → Nat
  | .slice _ n _ => n
  | _ => 0

/-- One round. -/
def RcaRnd (w : World) (l : List GArg) (s0 s3 : Value) (wr : World) : Prop :=
  ∃ (rest : List GArg) (A : Option Addr) (len cap : Nat) (acc : GAttrs) (n : Nat) (xs : List Value), s0 = .slice A len cap ∧ RArgS w rest A len ∧ len ≤ cap ∧ wr.ownsRow w.heap.size 35 8 s3 n xs ∧ RXs (Beside w.heap.size s3) wr acc xs ∧
    tidyMap (rcRaw l) = acc.append (tidyMap (rcRaw rest)) ∧ acc.len + rest.length ≤ 300000 ∧ argsSize rest ≤ 700000 ∧ Below w.heap.size w wr

set_option maxRecDepth 100000 in
set_option maxHeartbeats 2000000 in
/-- spec.RcArgs. -/
theorem rcArgs_any (l : List GArg) (w : World) (A : Option Addr) (len cap : Nat) (hsz : argsSize l ≤ 700000) (hlen : l.length ≤ 300000) (hlc : len ≤ cap) (hl : RArgS w l A len) :
    Calls Tryz.prog 17 #[.slice A len cap] w (ListPost (tidyMap (rcRaw l)) w) := by
  unfold ListPost
  obtain ⟨i0, hi, hz0, hz1, hz2⟩ := info_parts infoAttr
  go_enter Tryz.func17, Tryz.ntmps17
  go_wp2
  go_loopw [0, 3] (fun x y wr => RcaRnd w l x y wr) (fun x _ _ => lenOf x)
  case atStart => exact ⟨l, A, len, cap, .nil, 0, [], rfl, hl, hlc, World.ownsRow_nil _ _ _ _, rfl, rfl, by simp only [GAttrs.len]; omega, hsz, Below.refl _ _⟩
  case round =>
    clear hl hlc hlen hsz
    clear A len cap
    obtain ⟨rest, A, len, cap, acc, n, xs, rfl, ⟨hl0, hl1⟩, hlc, hown, hx, hval, hacc, hsz, hB⟩ := hrel
    have HX := Lib.hid hx
    have HO := Lib.hid hown
    have Hval := Lib.hid hval
    have hn : n = acc.len := by have h1 := hown.1; have h2 := RXs.len acc xs hx; omega
    have hsize := hB.size
    cases rest with
    | nil =>
      replace hl0 : len = 0 := hl0
      subst hl0
      obtain ⟨A', cap', rfl, hrsp⟩ := rsp_of_owns (Q := New w) hown hx (fun b hb => hb.1) (fun b hb => hb)
      have HR := Lib.hid hrsp
      clear hown hx hval hrsp hl1 hn
      go_wp2
      go_ret
      refine ⟨A', _, cap', rfl, ?_, hB⟩
      rw [Hval.out, show rcRaw [] = .nil from rfl, tidyMap_nil, append_nil]; exact HR.out
    | cons a r =>
      obtain ⟨m, hm⟩ : ∃ m, m = r.length := ⟨_, rfl⟩
      replace hl0 : len = m + 1 := by rw [hm]; simpa using hl0
      subst hl0
      obtain ⟨c, rfl⟩ : ∃ c, cap = c + 1 := ⟨cap - 1, by omega⟩
      obtain ⟨b, o, rfl, hrs⟩ := hl1 (by omega)
      have hrc : m ≤ c := by omega
      have Hm := Lib.hid hm
      clear hl1 hlc
      have hlr : (0 : Int) < ((m + 1 : Nat) : Int) := by omega
      have hlr2 : (0 : Int) < (m : Int) + 1 := by omega
      have hlr3 : (1 : Int) ≤ (m : Int) + 1 := by omega
      obtain ⟨what, key, val⟩ := a
      obtain ⟨hwhat, hkey, hv, hr'⟩ := hrs
      have hb0 : b < w.heap.size := World.block_lt_of_cell? w _ hwhat
      have HRr := Lib.hid hr'
      have hK := keeps_of_below hB
      have HK := Lib.hid hK
      have hwhat := hK.cell hwhat
      have hkey := hK.cell hkey
      have hv := hv.keep hK
      have hbb : b < wr.heap.size := World.block_lt_of_cell? wr _ hwhat
      have hbb1 : b < wr.heap.size + 1 := by omega
      have hbn : b ≠ wr.heap.size := by omega
      have HT := Lib.hid (tidy_any val)
      have hvs : val.size ≤ 700000 := by simp only [argsSize] at hsz; omega
      have hrz : argsSize r ≤ 700000 := by simp only [argsSize] at hsz; omega
      have hac : acc.len + 1 + m ≤ 300000 := by simp only [List.length_cons] at hacc; omega
      have hkn : n + 1 ≤ 300000 := by omega
      have HLT := Lib.hid (fun g hg => (hown.lt g hg).2)
      have HLO := Lib.hid (fun g hg => (hown.lt g hg).1)
      clear hr' hown hx hval hK hsz hn hacc hm
      simp only at hwhat hkey hv hvs
      obtain ⟨vk, vn, vs, vt, vl⟩ := val
      unfold RVal at hv
      obtain ⟨c0, c1, c2, c3, c4, c5, Av, lenv, capv, c6, hlenv, hAv⟩ := hv
      have HSv := Lib.hid (show RS wr vl Av lenv from ⟨hlenv, hAv⟩)
      clear hlenv hAv
      by_cases hw0 : what = 0
      · subst hw0
        have Hend := Lib.hid (Hval.out.trans (congrArg acc.append ((congrArg tidyMap (rcRaw_attr (a := ⟨0, key, .mk vk vn vs vt vl⟩) (r := r) rfl)).trans tidyMap_cons)))
        clear Hval
        go_wp2_with fail
        all_goals
          go_region_held_law (fun w' => w'.cell? ⟨wr.heap.size, 0, none⟩ = some (.int .i64 0) ∧ w'.cell? ⟨wr.heap.size, 1, none⟩ = some (.string key) ∧ w'.cell? ⟨wr.heap.size, 2, none⟩ = some (.int .i64 vk) ∧ w'.cell? ⟨wr.heap.size, 3, none⟩ = some (.int .u64 vn) ∧ w'.cell? ⟨wr.heap.size, 4, none⟩ = some (.string vs) ∧ w'.cell? ⟨wr.heap.size, 5, none⟩ = some (.int .i64 vt.sec) ∧ w'.cell? ⟨wr.heap.size, 6, none⟩ = some (.int .i64 vt.nsec) ∧ w'.cell? ⟨wr.heap.size, 7, none⟩ = some (.int .i64 vt.off) ∧ w'.cell? ⟨wr.heap.size, 8, none⟩ = some (.slice Av lenv capv)) (go_keep) (first
            | (refine step_append_lies _ rfl (.tmp 24) (.tmp 31) 24 rfl w.heap.size 35 i0 _ 8 96 Tryz.underlying24 hi hz0 hz1 hz2 rfl (by decide) _ n xs rfl (HO2.out.alloc _) ⟨_, 0, none⟩ 1 1 [.string key, .int .i64 (vaTidy (.mk vk vn vs vt vl)).kind, .int .u64 (vaTidy (.mk vk vn vs vt vl)).n, .string (vaTidy (.mk vk vn vs vt vl)).s, .int .i64 (vaTidy (.mk vk vn vs vt vl)).t.sec, .int .i64 (vaTidy (.mk vk vn vs vt vl)).t.nsec, .int .i64 (vaTidy (.mk vk vn vs vt vl)).t.off, .slice A2 len2 cap2] rfl rfl (by intro j u hj; exact cells_new _ _ _ _ (by simp) j u hj) (by intro u hu; simp at hu; rcases hu with rfl | rfl | rfl | rfl | rfl | rfl | rfl | rfl; all_goals rfl) (by decide) (by unfold maxLen; omega) (by omega) (by simp; omega) _ rfl ?_; intro g cap3 w3 hown3 hgrow3 hat3 hlt3; have hc3 : ∀ o', w3.cell? ⟨wr.heap.size, o', none⟩ = w2.cell? ⟨wr.heap.size, o', none⟩ := (fun o' => (World.cell?_of_block (a := ⟨wr.heap.size, o', none⟩) (hgrow3.block wr.heap.size (by simp; omega) (fun e => by have := HLT.out _ e.symm; omega))).trans (World.cell?_of_block (a := ⟨wr.heap.size, o', none⟩) (Below.heap_alloc w2 _ _ hl2))); have hcb3 : ∀ o', w3.cell? ⟨b, o', none⟩ = w2.cell? ⟨b, o', none⟩ := (fun o' => (World.cell?_of_block (a := ⟨b, o', none⟩) (hgrow3.block b (by simp; omega) (fun e => by have := HLO.out _ e.symm; omega))).trans (World.cell?_of_block (a := ⟨b, o', none⟩) (Below.heap_alloc w2 _ _ (show b < w2.heap.size by omega)))); have HO3 := Lib.hid hown3; have HG3 := Lib.hid hgrow3; have HA3 := Lib.hid hat3; clear hown3 hgrow3 hat3 hlt3)
            | (go_at_call 57; refine (HT.out _ _ _ _ hvs (HSv.out.keep (keeps_of_below (by repeat' (first | with_reducible assumption | with_reducible exact Below.refl _ _ | with_reducible refine Below.setCell ?_ ?_ _ | with_reducible refine Below.alloc ?_ ?_ _ | with_reducible refine Below.drew ?_ | with_reducible refine below_drewN ?_ _ | omega | (simp; done) | (simp; omega)))))).mono ?_; rintro e w2 ⟨A2, len2, cap2, rfl, hr2, hb2⟩; have HR2 := Lib.hid hr2; have HB2 := Lib.hid (keeps_below (show Below w.heap.size w _ from (by repeat' (first | with_reducible assumption | with_reducible exact Below.refl _ _ | with_reducible refine Below.setCell ?_ ?_ _ | with_reducible refine Below.alloc ?_ ?_ _ | with_reducible refine Below.drew ?_ | with_reducible refine below_drewN ?_ _ | omega | (simp; done) | (simp; omega)))) hb2); have HBr := Lib.hid (keeps_below (show Below wr.heap.size wr _ from (by repeat' (first | with_reducible assumption | with_reducible exact Below.refl _ _ | with_reducible refine Below.setCell ?_ ?_ _ | with_reducible refine Below.alloc ?_ ?_ _ | with_reducible refine Below.drew ?_ | with_reducible refine below_drewN ?_ _ | omega | (simp; done) | (simp; omega)))) hb2); obtain ⟨hc2, hf2⟩ := bcell hb2; have hs2 := hb2.size; simp at hs2; have hl2 : wr.heap.size < w2.heap.size := (by omega); have HO2 := Lib.hid (own_below ((HO.out.alloc _).drew) hb2); clear hr2; unfold vVal))
          simp only [Act.put, List.getElem_toArray, List.getElem_cons_succ, List.getElem_cons_zero, List.setIfInBounds_toArray, List.set_cons_zero, List.set_cons_succ]
          go_wp2
          refine ⟨⟨r, _, _, _, acc.snoc key (vaTidy (.mk vk vn vs vt vl)), n + 1, _, rfl, ⟨Hm.out, fun hp => ?_⟩, by omega, HO3.out, ?_, ?_, ?_, hrz, ?_⟩, ?_⟩
          · first | exact absurd hp (by omega) | exact ⟨b, o + 9, rfl, HRr.out⟩ | exact ⟨b, o + 9, if_neg (by omega), HRr.out⟩
          · exact tidy_snoc (RXs.turn (keepsOn_of_below HBr.out _) (fun _ h _ => h) _ _ HX.out) HR2.out (fun g hg => by have := HLT.out g hg; simp; omega) (by simp; omega) (fun P => (KeepsOn.refl P _).alloc _) (by simp) HG3.out (HA3.out.elim (fun h => .inl h.symm) (fun h => .inr (by rw [← h]; rfl)))
          · rw [snoc_append]; exact Hend.out
          · rw [len_snoc]; have := Hm.out; omega
          · exact Below.grown (HB2.out.alloc (by omega) _) HG3.out (by simp; omega) (fun g hg => HLO.out g hg)
          · simp only [lenOf]; omega
      · by_cases hw5 : what = 1 ∧ vk = 5
        · obtain ⟨rfl, rfl⟩ := hw5
          cases r with
          | nil =>
            have Hend := Lib.hid (Hval.out.trans (congrArg acc.append ((congrArg tidyMap (rcRaw_last (a := ⟨1, key, .mk 5 vn vs vt vl⟩) (show ¬ (1 : Int) = 0 by decide))).trans tidyMap_cons)))
            clear Hval
            have hm0 : m = 0 := Hm.out
            subst hm0
            go_wp2_with (first
              | (go_at_call 57; refine (HT.out _ _ _ _ hvs (HSv.out.keep (keeps_of_below (by repeat' (first | with_reducible assumption | with_reducible exact Below.refl _ _ | with_reducible refine Below.setCell ?_ ?_ _ | with_reducible refine Below.alloc ?_ ?_ _ | with_reducible refine Below.drew ?_ | with_reducible refine below_drewN ?_ _ | omega | (simp; done) | (simp; omega)))))).mono ?_; rintro e w2 ⟨A2, len2, cap2, rfl, hr2, hb2⟩; have HR2 := Lib.hid hr2; have HB2 := Lib.hid (keeps_below (show Below w.heap.size w _ from (by repeat' (first | with_reducible assumption | with_reducible exact Below.refl _ _ | with_reducible refine Below.setCell ?_ ?_ _ | with_reducible refine Below.alloc ?_ ?_ _ | with_reducible refine Below.drew ?_ | with_reducible refine below_drewN ?_ _ | omega | (simp; done) | (simp; omega)))) hb2); have HBr := Lib.hid (keeps_below (show Below wr.heap.size wr _ from (by repeat' (first | with_reducible assumption | with_reducible exact Below.refl _ _ | with_reducible refine Below.setCell ?_ ?_ _ | with_reducible refine Below.alloc ?_ ?_ _ | with_reducible refine Below.drew ?_ | with_reducible refine below_drewN ?_ _ | omega | (simp; done) | (simp; omega)))) hb2); obtain ⟨hc2, hf2⟩ := bcell hb2; have hs2 := hb2.size; simp at hs2; have hl2 : wr.heap.size < w2.heap.size := (by omega); have HO2 := Lib.hid (own_below (HO.out.alloc _) hb2); clear hr2; unfold vVal)
              | (at_builtin; refine wpList_append_lies _ rfl (.tmp 13) (.tmp 18) 24 rfl w.heap.size 35 i0 _ 8 96 Tryz.underlying24 hi hz0 hz1 hz2 rfl (by decide) _ n xs rfl (HO2.out.alloc _) ⟨_, 0, none⟩ 1 1 [.string badKey, .int .i64 (vaTidy (.mk 5 vn vs vt vl)).kind, .int .u64 (vaTidy (.mk 5 vn vs vt vl)).n, .string (vaTidy (.mk 5 vn vs vt vl)).s, .int .i64 (vaTidy (.mk 5 vn vs vt vl)).t.sec, .int .i64 (vaTidy (.mk 5 vn vs vt vl)).t.nsec, .int .i64 (vaTidy (.mk 5 vn vs vt vl)).t.off, .slice A2 len2 cap2] rfl rfl (by intro j u hj; exact cells_new _ _ _ _ (by simp) j u hj) (by intro u hu; simp at hu; rcases hu with rfl | rfl | rfl | rfl | rfl | rfl | rfl | rfl; all_goals rfl) (by decide) (by unfold maxLen; omega) (by omega) (by simp; omega) _ rfl ?_; intro g cap3 w3 hown3 hgrow3 hat3 hlt3; have hc3 : ∀ o', w3.cell? ⟨wr.heap.size, o', none⟩ = w2.cell? ⟨wr.heap.size, o', none⟩ := (fun o' => (World.cell?_of_block (a := ⟨wr.heap.size, o', none⟩) (hgrow3.block wr.heap.size (by simp; omega) (fun e => by have := HLT.out _ e.symm; omega))).trans (World.cell?_of_block (a := ⟨wr.heap.size, o', none⟩) (Below.heap_alloc w2 _ _ hl2))); have hcb3 : ∀ o', w3.cell? ⟨b, o', none⟩ = w2.cell? ⟨b, o', none⟩ := (fun o' => (World.cell?_of_block (a := ⟨b, o', none⟩) (hgrow3.block b (by simp; omega) (fun e => by have := HLO.out _ e.symm; omega))).trans (World.cell?_of_block (a := ⟨b, o', none⟩) (Below.heap_alloc w2 _ _ (show b < w2.heap.size by omega)))); have HO3 := Lib.hid hown3; have HG3 := Lib.hid hgrow3; have HA3 := Lib.hid hat3; clear hown3 hgrow3 hat3 hlt3))
            all_goals
              refine ⟨⟨[], _, _, _, acc.snoc badKey (vaTidy (.mk 5 vn vs vt vl)), n + 1, _, rfl, ⟨Hm.out, fun hp => ?_⟩, by omega, HO3.out, ?_, ?_, ?_, hrz, ?_⟩, ?_⟩
              · first | exact absurd hp (by omega) | exact ⟨b, o + 9, rfl, HRr.out⟩ | exact ⟨b, o + 9, if_neg (by omega), HRr.out⟩
              · exact tidy_snoc (RXs.turn (keepsOn_of_below HBr.out _) (fun _ h _ => h) _ _ HX.out) HR2.out (fun g hg => by have := HLT.out g hg; simp; omega) (by simp; omega) (fun P => (KeepsOn.refl P _).alloc _) (by simp) HG3.out (HA3.out.elim (fun h => .inl h.symm) (fun h => .inr (by rw [← h]; rfl)))
              · rw [snoc_append]; exact Hend.out
              · rw [len_snoc]; have := Hm.out; omega
              · exact Below.grown (HB2.out.alloc (by omega) _) HG3.out (by simp; omega) (fun g hg => HLO.out g hg)
              · simp only [lenOf]; omega
          | cons b2 r2 =>
            have Hend := Lib.hid (Hval.out.trans (congrArg acc.append ((congrArg tidyMap (rcRaw_pair (a := ⟨1, key, .mk 5 vn vs vt vl⟩) (b := b2) (r := r2) rfl rfl)).trans tidyMap_cons)))
            clear Hval HT hvs
            obtain ⟨m2, hm2⟩ : ∃ m2, m2 = r2.length := ⟨_, rfl⟩
            have hmm : m = m2 + 1 := by rw [Hm.out, hm2]; rfl
            subst hmm
            have Hm2 := Lib.hid hm2
            obtain ⟨c2, rfl⟩ : ∃ c2, c = c2 + 1 := ⟨c - 1, by omega⟩
            obtain ⟨what2, key2, val2⟩ := b2
            obtain ⟨hwhat2, hkey2, hv2, hr2'⟩ := HRr.out
            have HRr2 := Lib.hid hr2'
            have hv2 := hv2.keep HK.out
            have HT := Lib.hid (tidy_any val2)
            have hvs : val2.size ≤ 700000 := by simp only [argsSize] at hrz; omega
            have hrz2 : argsSize r2 ≤ 700000 := by simp only [argsSize] at hrz; omega
            simp only at hv2 hvs
            clear hwhat2 hkey2 hr2' hrz Hm hm2
            obtain ⟨uk, un, us, ut, ul⟩ := val2
            unfold RVal at hv2
            obtain ⟨d0, d1, d2, d3, d4, d5, Au, lenu, capu, d6, hlenu, hAu⟩ := hv2
            have HSu := Lib.hid (show RS wr ul Au lenu from ⟨hlenu, hAu⟩)
            clear hlenu hAu
            have hlq : (0 : Int) < ((m2 + 1 : Nat) : Int) := by omega
            have hlq2 : (0 : Int) < (m2 : Int) + 1 := by omega
            have hlq3 : (1 : Int) ≤ (m2 : Int) + 1 := by omega
            have hb2 : b < w.heap.size := hb0
            go_wp2_with fail
            go_region_held_law (fun w' => w'.cell? ⟨wr.heap.size, 4, none⟩ = some (.string vs) ∧ w'.cell? ⟨b, o + 9 + 2, none⟩ = some (.int .i64 uk) ∧ w'.cell? ⟨b, o + 9 + 2 + 1, none⟩ = some (.int .u64 un) ∧ w'.cell? ⟨b, o + 9 + 2 + 2, none⟩ = some (.string us) ∧ w'.cell? ⟨b, o + 9 + 2 + 3, none⟩ = some (.int .i64 ut.sec) ∧ w'.cell? ⟨b, o + 9 + 2 + 4, none⟩ = some (.int .i64 ut.nsec) ∧ w'.cell? ⟨b, o + 9 + 2 + 5, none⟩ = some (.int .i64 ut.off) ∧ w'.cell? ⟨b, o + 9 + 2 + 6, none⟩ = some (.slice Au lenu capu)) (go_keep) (first
              | (refine step_append_lies _ rfl (.tmp 48) (.tmp 58) 24 rfl w.heap.size 35 i0 _ 8 96 Tryz.underlying24 hi hz0 hz1 hz2 rfl (by decide) _ n xs rfl (HO2.out.alloc _) ⟨_, 0, none⟩ 1 1 [.string vs, .int .i64 (vaTidy (.mk uk un us ut ul)).kind, .int .u64 (vaTidy (.mk uk un us ut ul)).n, .string (vaTidy (.mk uk un us ut ul)).s, .int .i64 (vaTidy (.mk uk un us ut ul)).t.sec, .int .i64 (vaTidy (.mk uk un us ut ul)).t.nsec, .int .i64 (vaTidy (.mk uk un us ut ul)).t.off, .slice A2 len2 cap2] rfl rfl (by intro j u hj; exact cells_new _ _ _ _ (by simp) j u hj) (by intro u hu; simp at hu; rcases hu with rfl | rfl | rfl | rfl | rfl | rfl | rfl | rfl; all_goals rfl) (by decide) (by unfold maxLen; omega) (by omega) (by simp; omega) _ rfl ?_; intro g cap3 w3 hown3 hgrow3 hat3 hlt3; have hc3 : ∀ o', w3.cell? ⟨wr.heap.size, o', none⟩ = w2.cell? ⟨wr.heap.size, o', none⟩ := (fun o' => (World.cell?_of_block (a := ⟨wr.heap.size, o', none⟩) (hgrow3.block wr.heap.size (by simp; omega) (fun e => by have := HLT.out _ e.symm; omega))).trans (World.cell?_of_block (a := ⟨wr.heap.size, o', none⟩) (Below.heap_alloc w2 _ _ hl2))); have hcb3 : ∀ o', w3.cell? ⟨b, o', none⟩ = w2.cell? ⟨b, o', none⟩ := (fun o' => (World.cell?_of_block (a := ⟨b, o', none⟩) (hgrow3.block b (by simp; omega) (fun e => by have := HLO.out _ e.symm; omega))).trans (World.cell?_of_block (a := ⟨b, o', none⟩) (Below.heap_alloc w2 _ _ (show b < w2.heap.size by omega)))); have HO3 := Lib.hid hown3; have HG3 := Lib.hid hgrow3; have HA3 := Lib.hid hat3; clear hown3 hgrow3 hat3 hlt3)
              | (go_at_call 57; refine (HT.out _ _ _ _ hvs (HSu.out.keep (keeps_of_below (by repeat' (first | with_reducible assumption | with_reducible exact Below.refl _ _ | with_reducible refine Below.setCell ?_ ?_ _ | with_reducible refine Below.alloc ?_ ?_ _ | with_reducible refine Below.drew ?_ | with_reducible refine below_drewN ?_ _ | omega | (simp; done) | (simp; omega)))))).mono ?_; rintro e w2 ⟨A2, len2, cap2, rfl, hr2, hb2⟩; have HR2 := Lib.hid hr2; have HB2 := Lib.hid (keeps_below (show Below w.heap.size w _ from (by repeat' (first | with_reducible assumption | with_reducible exact Below.refl _ _ | with_reducible refine Below.setCell ?_ ?_ _ | with_reducible refine Below.alloc ?_ ?_ _ | with_reducible refine Below.drew ?_ | with_reducible refine below_drewN ?_ _ | omega | (simp; done) | (simp; omega)))) hb2); have HBr := Lib.hid (keeps_below (show Below wr.heap.size wr _ from (by repeat' (first | with_reducible assumption | with_reducible exact Below.refl _ _ | with_reducible refine Below.setCell ?_ ?_ _ | with_reducible refine Below.alloc ?_ ?_ _ | with_reducible refine Below.drew ?_ | with_reducible refine below_drewN ?_ _ | omega | (simp; done) | (simp; omega)))) hb2); obtain ⟨hc2, hf2⟩ := bcell hb2; have hs2 := hb2.size; simp at hs2; have hl2 : wr.heap.size < w2.heap.size := (by omega); have HO2 := Lib.hid (own_below ((HO.out.alloc _).drew) hb2); clear hr2; unfold vVal))
            simp only [Act.put, List.getElem_toArray, List.getElem_cons_succ, List.getElem_cons_zero, List.setIfInBounds_toArray, List.set_cons_zero, List.set_cons_succ]
            go_wp2
            all_goals
              refine ⟨⟨r2, _, _, _, acc.snoc vs (vaTidy (.mk uk un us ut ul)), n + 1, _, rfl, ⟨Hm2.out, fun hp => ?_⟩, by omega, HO3.out, ?_, ?_, ?_, hrz2, ?_⟩, ?_⟩
              · first | exact absurd hp (by omega) | exact ⟨b, o + 9 + 9, rfl, HRr2.out⟩ | exact ⟨b, o + 9 + 9, if_neg (by omega), HRr2.out⟩
              · exact tidy_snoc (RXs.turn (keepsOn_of_below HBr.out _) (fun _ h _ => h) _ _ HX.out) HR2.out (fun g hg => by have := HLT.out g hg; simp; omega) (by simp; omega) (fun P => (KeepsOn.refl P _).alloc _) (by simp) HG3.out (HA3.out.elim (fun h => .inl h.symm) (fun h => .inr (by rw [← h]; rfl)))
              · rw [snoc_append]; exact Hend.out
              · rw [len_snoc]; have := Hm2.out; omega
              · exact Below.grown (HB2.out.alloc (by omega) _) HG3.out (by simp; omega) (fun g hg => HLO.out g hg)
              · simp only [lenOf]; omega
        · have Hend := Lib.hid (Hval.out.trans (congrArg acc.append ((congrArg tidyMap (rcRaw_bad (a := ⟨what, key, .mk vk vn vs vt vl⟩) (r := r) hw0 hw5)).trans tidyMap_cons)))
          clear Hval
          by_cases hw1 : what = 1
          · subst hw1
            have hk5 : ¬ vk = 5 := fun h => hw5 ⟨rfl, h⟩
            have hk5' : (vk == 5) = false := by simp [hk5]
            clear hw5
            go_wp2_with (first
              | (go_at_call 57; refine (HT.out _ _ _ _ hvs (HSv.out.keep (keeps_of_below (by repeat' (first | with_reducible assumption | with_reducible exact Below.refl _ _ | with_reducible refine Below.setCell ?_ ?_ _ | with_reducible refine Below.alloc ?_ ?_ _ | with_reducible refine Below.drew ?_ | with_reducible refine below_drewN ?_ _ | omega | (simp; done) | (simp; omega)))))).mono ?_; rintro e w2 ⟨A2, len2, cap2, rfl, hr2, hb2⟩; have HR2 := Lib.hid hr2; have HB2 := Lib.hid (keeps_below (show Below w.heap.size w _ from (by repeat' (first | with_reducible assumption | with_reducible exact Below.refl _ _ | with_reducible refine Below.setCell ?_ ?_ _ | with_reducible refine Below.alloc ?_ ?_ _ | with_reducible refine Below.drew ?_ | with_reducible refine below_drewN ?_ _ | omega | (simp; done) | (simp; omega)))) hb2); have HBr := Lib.hid (keeps_below (show Below wr.heap.size wr _ from (by repeat' (first | with_reducible assumption | with_reducible exact Below.refl _ _ | with_reducible refine Below.setCell ?_ ?_ _ | with_reducible refine Below.alloc ?_ ?_ _ | with_reducible refine Below.drew ?_ | with_reducible refine below_drewN ?_ _ | omega | (simp; done) | (simp; omega)))) hb2); obtain ⟨hc2, hf2⟩ := bcell hb2; have hs2 := hb2.size; simp at hs2; have hl2 : wr.heap.size < w2.heap.size := (by omega); have HO2 := Lib.hid (own_below (HO.out.alloc _) hb2); clear hr2; unfold vVal)
              | (at_builtin; refine wpList_append_lies _ rfl (.tmp 13) (.tmp 18) 24 rfl w.heap.size 35 i0 _ 8 96 Tryz.underlying24 hi hz0 hz1 hz2 rfl (by decide) _ n xs rfl (HO2.out.alloc _) ⟨_, 0, none⟩ 1 1 [.string badKey, .int .i64 (vaTidy (.mk vk vn vs vt vl)).kind, .int .u64 (vaTidy (.mk vk vn vs vt vl)).n, .string (vaTidy (.mk vk vn vs vt vl)).s, .int .i64 (vaTidy (.mk vk vn vs vt vl)).t.sec, .int .i64 (vaTidy (.mk vk vn vs vt vl)).t.nsec, .int .i64 (vaTidy (.mk vk vn vs vt vl)).t.off, .slice A2 len2 cap2] rfl rfl (by intro j u hj; exact cells_new _ _ _ _ (by simp) j u hj) (by intro u hu; simp at hu; rcases hu with rfl | rfl | rfl | rfl | rfl | rfl | rfl | rfl; all_goals rfl) (by decide) (by unfold maxLen; omega) (by omega) (by simp; omega) _ rfl ?_; intro g cap3 w3 hown3 hgrow3 hat3 hlt3; have hc3 : ∀ o', w3.cell? ⟨wr.heap.size, o', none⟩ = w2.cell? ⟨wr.heap.size, o', none⟩ := (fun o' => (World.cell?_of_block (a := ⟨wr.heap.size, o', none⟩) (hgrow3.block wr.heap.size (by simp; omega) (fun e => by have := HLT.out _ e.symm; omega))).trans (World.cell?_of_block (a := ⟨wr.heap.size, o', none⟩) (Below.heap_alloc w2 _ _ hl2))); have hcb3 : ∀ o', w3.cell? ⟨b, o', none⟩ = w2.cell? ⟨b, o', none⟩ := (fun o' => (World.cell?_of_block (a := ⟨b, o', none⟩) (hgrow3.block b (by simp; omega) (fun e => by have := HLO.out _ e.symm; omega))).trans (World.cell?_of_block (a := ⟨b, o', none⟩) (Below.heap_alloc w2 _ _ (show b < w2.heap.size by omega)))); have HO3 := Lib.hid hown3; have HG3 := Lib.hid hgrow3; have HA3 := Lib.hid hat3; clear hown3 hgrow3 hat3 hlt3))
            all_goals
              refine ⟨⟨r, _, _, _, acc.snoc badKey (vaTidy (.mk vk vn vs vt vl)), n + 1, _, rfl, ⟨Hm.out, fun hp => ?_⟩, by omega, HO3.out, ?_, ?_, ?_, hrz, ?_⟩, ?_⟩
              · first | exact absurd hp (by omega) | exact ⟨b, o + 9, rfl, HRr.out⟩ | exact ⟨b, o + 9, if_neg (by omega), HRr.out⟩
              · exact tidy_snoc (RXs.turn (keepsOn_of_below HBr.out _) (fun _ h _ => h) _ _ HX.out) HR2.out (fun g hg => by have := HLT.out g hg; simp; omega) (by simp; omega) (fun P => (KeepsOn.refl P _).alloc _) (by simp) HG3.out (HA3.out.elim (fun h => .inl h.symm) (fun h => .inr (by rw [← h]; rfl)))
              · rw [snoc_append]; exact Hend.out
              · rw [len_snoc]; have := Hm.out; omega
              · exact Below.grown (HB2.out.alloc (by omega) _) HG3.out (by simp; omega) (fun g hg => HLO.out g hg)
              · simp only [lenOf]; omega
          · clear hw5
            go_wp2_with (first
              | (go_at_call 57; refine (HT.out _ _ _ _ hvs (HSv.out.keep (keeps_of_below (by repeat' (first | with_reducible assumption | with_reducible exact Below.refl _ _ | with_reducible refine Below.setCell ?_ ?_ _ | with_reducible refine Below.alloc ?_ ?_ _ | with_reducible refine Below.drew ?_ | with_reducible refine below_drewN ?_ _ | omega | (simp; done) | (simp; omega)))))).mono ?_; rintro e w2 ⟨A2, len2, cap2, rfl, hr2, hb2⟩; have HR2 := Lib.hid hr2; have HB2 := Lib.hid (keeps_below (show Below w.heap.size w _ from (by repeat' (first | with_reducible assumption | with_reducible exact Below.refl _ _ | with_reducible refine Below.setCell ?_ ?_ _ | with_reducible refine Below.alloc ?_ ?_ _ | with_reducible refine Below.drew ?_ | with_reducible refine below_drewN ?_ _ | omega | (simp; done) | (simp; omega)))) hb2); have HBr := Lib.hid (keeps_below (show Below wr.heap.size wr _ from (by repeat' (first | with_reducible assumption | with_reducible exact Below.refl _ _ | with_reducible refine Below.setCell ?_ ?_ _ | with_reducible refine Below.alloc ?_ ?_ _ | with_reducible refine Below.drew ?_ | with_reducible refine below_drewN ?_ _ | omega | (simp; done) | (simp; omega)))) hb2); obtain ⟨hc2, hf2⟩ := bcell hb2; have hs2 := hb2.size; simp at hs2; have hl2 : wr.heap.size < w2.heap.size := (by omega); have HO2 := Lib.hid (own_below (HO.out.alloc _) hb2); clear hr2; unfold vVal)
              | (at_builtin; refine wpList_append_lies _ rfl (.tmp 13) (.tmp 18) 24 rfl w.heap.size 35 i0 _ 8 96 Tryz.underlying24 hi hz0 hz1 hz2 rfl (by decide) _ n xs rfl (HO2.out.alloc _) ⟨_, 0, none⟩ 1 1 [.string badKey, .int .i64 (vaTidy (.mk vk vn vs vt vl)).kind, .int .u64 (vaTidy (.mk vk vn vs vt vl)).n, .string (vaTidy (.mk vk vn vs vt vl)).s, .int .i64 (vaTidy (.mk vk vn vs vt vl)).t.sec, .int .i64 (vaTidy (.mk vk vn vs vt vl)).t.nsec, .int .i64 (vaTidy (.mk vk vn vs vt vl)).t.off, .slice A2 len2 cap2] rfl rfl (by intro j u hj; exact cells_new _ _ _ _ (by simp) j u hj) (by intro u hu; simp at hu; rcases hu with rfl | rfl | rfl | rfl | rfl | rfl | rfl | rfl; all_goals rfl) (by decide) (by unfold maxLen; omega) (by omega) (by simp; omega) _ rfl ?_; intro g cap3 w3 hown3 hgrow3 hat3 hlt3; have hc3 : ∀ o', w3.cell? ⟨wr.heap.size, o', none⟩ = w2.cell? ⟨wr.heap.size, o', none⟩ := (fun o' => (World.cell?_of_block (a := ⟨wr.heap.size, o', none⟩) (hgrow3.block wr.heap.size (by simp; omega) (fun e => by have := HLT.out _ e.symm; omega))).trans (World.cell?_of_block (a := ⟨wr.heap.size, o', none⟩) (Below.heap_alloc w2 _ _ hl2))); have hcb3 : ∀ o', w3.cell? ⟨b, o', none⟩ = w2.cell? ⟨b, o', none⟩ := (fun o' => (World.cell?_of_block (a := ⟨b, o', none⟩) (hgrow3.block b (by simp; omega) (fun e => by have := HLO.out _ e.symm; omega))).trans (World.cell?_of_block (a := ⟨b, o', none⟩) (Below.heap_alloc w2 _ _ (show b < w2.heap.size by omega)))); have HO3 := Lib.hid hown3; have HG3 := Lib.hid hgrow3; have HA3 := Lib.hid hat3; clear hown3 hgrow3 hat3 hlt3))
            all_goals
              refine ⟨⟨r, _, _, _, acc.snoc badKey (vaTidy (.mk vk vn vs vt vl)), n + 1, _, rfl, ⟨Hm.out, fun hp => ?_⟩, by omega, HO3.out, ?_, ?_, ?_, hrz, ?_⟩, ?_⟩
              · first | exact absurd hp (by omega) | exact ⟨b, o + 9, rfl, HRr.out⟩ | exact ⟨b, o + 9, if_neg (by omega), HRr.out⟩
              · exact tidy_snoc (RXs.turn (keepsOn_of_below HBr.out _) (fun _ h _ => h) _ _ HX.out) HR2.out (fun g hg => by have := HLT.out g hg; simp; omega) (by simp; omega) (fun P => (KeepsOn.refl P _).alloc _) (by simp) HG3.out (HA3.out.elim (fun h => .inl h.symm) (fun h => .inr (by rw [← h]; rfl)))
              · rw [snoc_append]; exact Hend.out
              · rw [len_snoc]; have := Hm.out; omega
              · exact Below.grown (HB2.out.alloc (by omega) _) HG3.out (by simp; omega) (fun g hg => HLO.out g hg)
              · simp only [lenOf]; omega

end Go.Proofs.YtihhgnbgejjijaaGreatDoor.Va
