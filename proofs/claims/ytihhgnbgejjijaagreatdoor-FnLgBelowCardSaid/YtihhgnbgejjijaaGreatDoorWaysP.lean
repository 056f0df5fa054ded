/- laws.lgToo: the walk. -/
import Derived.Test.YtihhgnbgejjijaaGreatDoorLgPlay
import Derived.Test.YtihhgnbgejjijaaGreatDoorLgR
import Derived.Test.YtihhgnbgejjijaaGreatDoorLgSame
import Derived.Test.YtihhgnbgejjijaaGreatDoorArgY
namespace Go.Proofs.YtihhgnbgejjijaaGreatDoor.Va
set_option linter.unusedVariables false
set_option linter.unusedSimpArgs false
open Go Go.RowKit

def too : List GEv → List GEv
  | [] => []
  | e :: r => if e.what = 0 then too r else e :: too r
/-- One round. -/
def TooRnd (w : World) (l : List GEv) (b o : Nat) (s3 s8 : Value) (wr : World) : Prop :=
  ∃ (k : Nat) (rest acc : List GEv) (n : Nat) (xs : List Value), k + rest.length = l.length ∧ s8 = .int .i64 k ∧ too l = acc ++ too rest ∧ wr.ownsRow w.heap.size 101 6 s3 n xs ∧ REX (fun b => b < w.heap.size) wr acc xs ∧
    REvs (fun _ => True) w rest b (o + k * 6) ∧ acc.length + rest.length ≤ 100000 ∧ Below w.heap.size w wr
def TooPost (l : List GEv) (w : World) (e : Ending) (w' : World) : Prop := ∃ A len cap, e = .returned (.slice A len cap) ∧ REvS (fun _ => True) w' l A len ∧ Below w.heap.size w w'

set_option maxRecDepth 100000 in
set_option maxHeartbeats 4000000 in
/-- laws.lgToo. -/
theorem lgToo_any (l : List GEv) (w : World) (A : Option Addr) (len cap : Nat) (hl : REvS (fun _ => True) w l A len) (hn : l.length ≤ 100000) :
    Calls Tryz.prog 30 #[.slice A len cap] w (TooPost (too l) w) := by
  obtain ⟨i0, hi, hz0, hz1, hz2⟩ := info_parts infoEvent
  obtain ⟨hl0, hl1⟩ := hl
  obtain ⟨Q, hQ⟩ : ∃ Q : Ending → World → Prop, Q = TooPost (too l) w := ⟨_, rfl⟩
  rw [← hQ]
  have HQ := Lib.hid hQ
  have Hl0 := Lib.hid hl0
  have hst : ∃ b o, (0 < len → A = some ⟨b, o, none⟩) ∧ TooRnd w l b o (.slice none 0 0) (.int .i64 0) w := by
    by_cases hz : 0 < len
    · obtain ⟨b, o, e, _, hr⟩ := hl1 hz
      exact ⟨b, o, fun _ => e, 0, l, [], 0, [], by omega, rfl, rfl, World.ownsRow_nil _ _ _ _, rfl, by simpa using hr, by simp; omega, Below.refl _ _⟩
    · have : l = [] := List.length_eq_zero_iff.1 (by omega)
      subst this
      exact ⟨0, 0, fun h => absurd h hz, 0, [], [], 0, [], rfl, rfl, rfl, World.ownsRow_nil _ _ _ _, rfl, trivial, by simp, Below.refl _ _⟩
  obtain ⟨b, o, hA, hs⟩ := hst
  have HA := Lib.hid hA
  have HS := Lib.hid hs
  have HN := Lib.hid hn
  clear hQ hl0 hl1 hA hs hn
  go_enter Tryz.func30, Tryz.ntmps30
  go_wp2
  go_loopw [3, 8] (fun x y wr => TooRnd w l b o x y wr) (fun _ y _ => len - (intOf y).toNat)
  case atStart => exact HS.out
  case round =>
    clear HS
    obtain ⟨k, rest, acc, n, xs, hk, rfl, hval, hown, hx, hrs, hac, hB⟩ := hrel
    have hk' := Hl0.out
    have Hval := Lib.hid hval
    have HX := Lib.hid hx
    have HO := Lib.hid hown
    have HLO := Lib.hid hown.lt
    have hsz := hB.size
    have hn : n = acc.length := by have h1 := hown.1; have h2 := REX.len acc xs hx; omega
    cases rest with
    | nil =>
      have hke : ¬ ((k : Int) < (len : Int)) := by simp at hk; omega
      obtain ⟨A', cap', rfl, hrsp⟩ := revs_of_owns (Q := fun _ => True) hown hx (fun b hb => trivial) (fun b hb => trivial)
      have HR := Lib.hid hrsp
      clear hk hk' hrs hown hx hval hrsp hn
      go_wp2
      rw [HQ.out]
      exact ⟨A', _, cap', rfl, by rw [Hval.out, show too [] = [] from rfl, List.append_nil]; exact HR.out, hB⟩
    | cons s r =>
      have hlt : (k : Int) < (len : Int) := by simp only [List.length_cons] at hk; omega
      have hk0 : (0 : Int) ≤ (k : Int) := by omega
      have hkk : k + 1 + r.length = l.length := by simp only [List.length_cons] at hk; omega
      have hac2 : acc.length + 1 + r.length ≤ 100000 := by simp only [List.length_cons] at hac; omega
      have hn4 : n ≤ 100000 := by omega
      have hkb : k ≤ 100000 := by have := HN.out; omega
      have hA := HA.out (by omega)
      subst hA
      obtain ⟨what, level, yes, name, msg, attrs⟩ := s
      obtain ⟨h0, h1, h2, h3, h4, ⟨Ae, le, ce, h5, hat⟩, hr⟩ := hrs
      have hK := keeps_of_below hB
      simp only at h0 h1 h2 h3 h4 h5 hat
      have h0 := hK.cell h0
      have h1 := hK.cell h1
      have h2 := hK.cell h2
      have h3 := hK.cell h3
      have h4 := hK.cell h4
      have h5 := hK.cell h5
      have HR := Lib.hid hr
      have Hat := Lib.hid hat
      have hbb : b < wr.heap.size := World.block_lt_of_cell? wr _ h0
      have HB := Lib.hid hB
      clear hk hk' hr hK hat hown hx hval hn hac hB
      by_cases h : what = 0
      · subst h
        go_wp2
        refine ⟨⟨k + 1, r, acc, n, xs, hkk, by push_cast; rfl, by rw [Hval.out]; rfl, HO.out.alloc _, REX.turn ((KeepsOn.refl _ _).alloc _) (fun _ h _ => h) acc xs HX.out, ?_, by omega, HB.out.alloc (by omega) _⟩, ?_⟩
        · have := HR.out; rwa [show o + k * 6 + 6 = o + (k + 1) * 6 by omega] at this
        · simp only [intOf]; omega
      · go_wp2_with (at_builtin; refine wpList_append_lies _ rfl (.tmp 15) (.tmp 17) 63 rfl w.heap.size 101 i0 _ 6 80 Tryz.underlying63 hi hz0 hz1 hz2 rfl (by decide) _ n xs rfl ((HO.out.alloc _).alloc _) ⟨_, 0, none⟩ 1 1 [.int .i64 what, .int .i64 level, .bool yes, .string name, .string msg, .slice Ae le ce] rfl rfl (by intro j u hj; exact cells_new _ _ _ _ (by simp) j u hj) (by intro u hu; simp at hu; (repeat' (rcases hu with rfl | hu)); all_goals (first | rfl | (subst hu; rfl))) (by decide) (by unfold maxLen; omega) (by omega) (by simp; omega) _ rfl ?_; intro g5 cap5 w5 hown5 hgrow5 hat5 hlt5; have HO5 := Lib.hid hown5; have HG5 := Lib.hid hgrow5; clear hown5 hgrow5 hat5 hlt5)
        have hB5 : Below w.heap.size w w5 := Below.grown ((HB.out.alloc (by omega) _).alloc (by simp; omega) _) HG5.out (by simp; omega) (fun g hg => (HLO.out g hg).1)
        have hK5 : KeepsOn (fun b => b < w.heap.size) wr w5 := fun b hb _ => (hB5.block b hb).trans (HB.out.block b hb).symm
        have hKw : KeepsOn (fun b => b < w.heap.size) w w5 := fun b hb _ => hB5.block b hb
        refine ⟨⟨k + 1, r, acc ++ [⟨what, level, yes, name, msg, attrs⟩], n + 1, _, hkk, by push_cast; rfl, by rw [Hval.out, List.append_assoc, too, if_neg h]; rfl, HO5.out,
          REX.app _ _ _ _ (REX.turn hK5 (fun _ h _ => h) acc xs HX.out) ⟨Ae, le, ce, [], rfl, (Hat.out.turn (Q := fun b => b < w.heap.size) (KeepsOn.refl _ _) (fun b _ hb => hb)).turn hKw (fun _ h _ => h), rfl⟩, ?_, by simp only [List.length_append, List.length_cons, List.length_nil]; omega, hB5⟩, ?_⟩
        · have := HR.out; rwa [show o + k * 6 + 6 = o + (k + 1) * 6 by omega] at this
        · simp only [intOf]; omega

end Go.Proofs.YtihhgnbgejjijaaGreatDoor.Va

/- FnLgBelow, plain Lean: what is logged below the level leaves the questions alone. -/
namespace Go.Proofs.YtihhgnbgejjijaaGreatDoor.Va
set_option linter.unusedVariables false
set_option linter.unusedSimpArgs false
open Go Go.RowKit

def lvB (s : GStep) : Int := if 3 < s.act then 4 * (s.act - 5) else s.level
def above (least : Int) : List GStep → List GStep
  | [] => []
  | s :: r => if s.act < 2 ∨ (s.act ≠ 8 ∧ least ≤ lvB s) then s :: above least r else above least r
theorem too_app : ∀ a b : List GEv, too (a ++ b) = too a ++ too b
  | [], _ => rfl
  | e :: r, b => by
    by_cases h : e.what = 0
    · simp only [List.cons_append, too, if_pos h, too_app r b]
    · simp only [List.cons_append, too, if_neg h, too_app r b]
theorem madeEvs_app (least : Int) : ∀ a b : List GStep, madeEvs least (a ++ b) = madeEvs least a ++ madeEvs least b
  | [], _ => rfl
  | s :: r, b => by simp only [List.cons_append, madeEvs, madeEvs_app least r b, List.append_assoc]
/-- A step that is left out asks nothing but whether the handler is enabled. -/
theorem below_too (least : Int) (s : GStep) (h0 : 0 ≤ s.act) (h8 : s.act ≤ 8) (h : ¬ (s.act < 2 ∨ (s.act ≠ 8 ∧ least ≤ lvB s))) : too (madeEv least s) = [] := by
  have hl : s.act ≠ 8 → lvB s = lgLevel s := by
    intro h9
    unfold lvB lgLevel
    (repeat' split) <;> omega
  unfold madeEv
  rw [if_neg (by omega), if_neg (by omega)]
  by_cases h9 : s.act = 8
  · rw [if_pos (.inl h9)]; rfl
  · rw [if_pos (.inr (by have := hl h9; omega))]; rfl
theorem above_too (least : Int) : ∀ l : List GStep, (∀ s ∈ l, 0 ≤ s.act ∧ s.act ≤ 8) → too (madeEvs least (above least l)) = too (madeEvs least l)
  | [], _ => rfl
  | s :: r, h => by
    have ih := above_too least r (fun x hx => h x (List.mem_cons_of_mem _ hx))
    by_cases hc : s.act < 2 ∨ (s.act ≠ 8 ∧ least ≤ lvB s)
    · rw [above, if_pos hc, madeEvs, madeEvs, too_app, too_app, ih]
    · have := h s (List.mem_cons_self ..)
      rw [above, if_neg hc, madeEvs, too_app, ih, below_too least s this.1 this.2 hc, List.nil_append]
theorem above_len (least : Int) : ∀ l : List GStep, (above least l).length ≤ l.length
  | [] => Nat.le_refl _
  | s :: r => by
    have ih := above_len least r
    rw [above]
    split <;> simp only [List.length_cons] <;> omega
theorem above_mem (least : Int) : ∀ (l : List GStep) (s : GStep), s ∈ above least l → s ∈ l
  | [], _, h => h
  | a :: r, s, h => by
    rw [above] at h
    split at h
    · rcases List.mem_cons.1 h with rfl | h
      · exact List.mem_cons_self ..
      · exact List.mem_cons_of_mem _ (above_mem least r s h)
    · exact List.mem_cons_of_mem _ (above_mem least r s h)
theorem sameEvs_left : ∀ {a b : List GEv}, SameEvs a b → SameEvs a a
  | [], _, _ => trivial
  | _ :: _, _ :: _, h => ⟨⟨rfl, rfl, rfl, rfl, rfl, sameL_left _ _ h.1.2.2.2.2.2⟩, sameEvs_left h.2⟩
  | _ :: _, [], h => h.elim
theorem too_same : ∀ {a b : List GEv}, SameEvs a b → SameEvs (too a) (too b)
  | [], [], _ => trivial
  | x :: r, y :: s, h => by
    have hw := h.1.1
    by_cases hx : x.what = 0
    · rw [too, too, if_pos hx, if_pos (hw.symm.trans hx)]; exact too_same h.2
    · rw [too, too, if_neg hx, if_neg (fun e => hx (hw.trans e))]; exact ⟨h.1, too_same h.2⟩
  | [], _ :: _, h => h.elim
  | _ :: _, [], h => h.elim
theorem too_len : ∀ a : List GEv, (too a).length ≤ a.length
  | [] => Nat.le_refl _
  | e :: r => by
    have ih := too_len r
    rw [too]
    split <;> simp only [List.length_cons] <;> omega
theorem too_mem : ∀ (a : List GEv) (e : GEv), e ∈ too a → e ∈ a
  | [], _, h => h
  | x :: r, e, h => by
    rw [too] at h
    split at h
    · exact List.mem_cons_of_mem _ (too_mem r e h)
    · rcases List.mem_cons.1 h with rfl | h
      · exact List.mem_cons_self ..
      · exact List.mem_cons_of_mem _ (too_mem r e h)

/-- The step behind all others. -/
def stepEnd : GStep := ⟨1, ⟨#[101, 110, 100]⟩, 0, ByteArray.empty, [], .nil⟩
theorem stepEnd_made (least : Int) : madeEv least stepEnd = [⟨2, 0, false, ⟨#[101, 110, 100]⟩, ByteArray.empty, .nil⟩] := by
  unfold madeEv stepEnd
  rw [if_neg (by simp), if_pos rfl, if_neg (by decide)]
theorem stepEnd_ok : playOk stepEnd ∧ madeOk stepEnd ∧ stepOk stepEnd :=
  ⟨⟨by decide, by decide, by decide⟩, ⟨by decide, by decide, ⟨trivial, trivial, trivial, by decide, by decide, by decide⟩, by decide, by unfold stepEnd GAttrs.wf; trivial, by decide, by decide⟩, ⟨trivial, trivial, by decide, by unfold stepEnd goodAll; trivial, by unfold stepEnd GAttrs.wf; trivial, by decide⟩⟩
/-- FnLgBelow's two sides. -/
theorem below_same (least : Int) (l : List GStep) (h : ∀ s ∈ l, stepOk s) (ha : ∀ s ∈ l, 0 ≤ s.act ∧ s.act ≤ 8) :
    SameEvs (too (madeEvs least (l ++ [stepEnd]))) (too (madeEvs least (above least l ++ [stepEnd]))) ∧ 0 < (too (madeEvs least (l ++ [stepEnd]))).length := by
  have e : too (madeEvs least (above least l ++ [stepEnd])) = too (madeEvs least (l ++ [stepEnd])) := by
    rw [madeEvs_app, madeEvs_app, too_app, too_app, above_too least l ha]
  rw [e]
  refine ⟨sameEvs_left (too_same (evs_same least (l ++ [stepEnd]) (fun s hs => ?_))), ?_⟩
  · rcases List.mem_append.1 hs with hs | hs
    · exact h s hs
    · rw [List.mem_singleton.1 hs]; exact stepEnd_ok.2.2
  · rw [madeEvs_app, too_app, List.length_append]
    have : too (madeEvs least [stepEnd]) = [⟨2, 0, false, ⟨#[101, 110, 100]⟩, ByteArray.empty, .nil⟩] := by
      simp only [madeEvs, stepEnd_made, List.append_nil]; rfl
    rw [this]
    simp

end Go.Proofs.YtihhgnbgejjijaaGreatDoor.Va

/- The statement FnLgAsked: the walk, and what the guards give. -/
namespace Go.Proofs.YtihhgnbgejjijaaGreatDoor.Va
set_option linter.unusedVariables false
set_option linter.unusedSimpArgs false
open Go Go.RowKit

theorem steps_fine : ∀ (l : List GStep) (left : Int), left ≤ 65536 → stepsWf l → 0 ≤ lgLeft l left → ∀ s ∈ l, playOk s ∧ madeOk s ∧ stepOk s
  | [], _, _, _, _, s, hs => absurd hs (by simp)
  | s :: r, left, hle, hwf, h, t, ht => by
    obtain ⟨⟨w1, w2, w3, w4, w5, w6, w7, w8⟩, hwr⟩ := hwf
    by_cases h1 : left - (1 + s.name.size + s.msg.size) < 0 ∨ s.act < 0 ∨ 8 < s.act
    · rw [lgLeft_no1 h1] at h; omega
    by_cases h2 : rcLeft s.args false (left - (1 + s.name.size + s.msg.size)) < 0
    · rw [lgLeft_no2 h1 h2] at h; omega
    by_cases h3 : vaLeftAll s.attrs 20 (rcLeft s.args false (left - (1 + s.name.size + s.msg.size))) < 0
    · rw [lgLeft_no3 h1 h2 h3] at h; omega
    rw [lgLeft_on h1 h2 h3] at h
    obtain ⟨ga, pa, sa⟩ := rcLeft_good s.args false _ (Int.not_lt.1 h2)
    obtain ⟨gt, st⟩ := leftAll_good s.attrs 20 _ (Int.not_lt.1 h3)
    rcases List.mem_cons.1 ht with rfl | ht
    · have sza : argsSize t.args ≤ 65536 := by omega
      have hal := args_len t.args
      have hat : t.attrs.size ≤ 65536 := by omega
      obtain ⟨hrs, hrl⟩ := rcRaw_size t.args
      have v1 := vsize_all none (rcRaw t.args)
      have v2 := vsize_full (attrsOf none (rcRaw t.args))
      have v3 := vsize_all none t.attrs
      have v4 := vsize_full (attrsOf none t.attrs)
      have hl := len_le_size t.attrs
      have hll : (attrsOf none t.attrs).len = t.attrs.len := len_attrsOf none t.attrs
      exact ⟨⟨sza, by omega, hat⟩, ⟨by omega, by omega, ⟨argsOk_of _ ga sza, w5, pairsT_pairs _ pa, by omega, by omega, by omega⟩, by omega, w7, by omega, by omega⟩, ⟨ga, w5, w6, gt, w7, w8⟩⟩
    · exact steps_fine r _ (by omega) hwr h t ht

theorem madeEv_size (least : Int) (s : GStep) (h : playOk s) : ∀ e ∈ madeEv least s, e.attrs.size ≤ 3000000 := by
  obtain ⟨h1, h2, h3⟩ := h
  have a1 := argsTold_size s.args
  have a2 := told_vsizeAll (attrsOf none (rcRaw s.args))
  have a3 := vsize_all none (rcRaw s.args)
  have a4 := (rcRaw_size s.args).1
  have a5 := told_vsizeAll (attrsOf none s.attrs).full
  have a6 := vsize_full (attrsOf none s.attrs)
  have a7 := vsize_all none s.attrs
  have a0 : GAttrs.nil.size = 0 := rfl
  intro e he
  unfold madeEv evAsk at he
  (repeat' split at he) <;> simp only [List.mem_cons, List.mem_nil_iff, List.not_mem_nil, or_false] at he
  all_goals
    first
    | exact he.elim
    | (rcases he with rfl | rfl <;> simp only <;> omega)
    | (subst he; simp only; omega)
theorem madeEvs_size (least : Int) : ∀ (l : List GStep), (∀ s ∈ l, playOk s) → (∀ e ∈ madeEvs least l, e.attrs.size ≤ 3000000) ∧ (madeEvs least l).length ≤ 2 * l.length
  | [], _ => ⟨fun e he => absurd he (by simp [madeEvs]), by simp [madeEvs]⟩
  | s :: r, h => by
    obtain ⟨i1, i2⟩ := madeEvs_size least r (fun x hx => h x (List.mem_cons_of_mem _ hx))
    have j := madeEv_len least s
    refine ⟨fun e he => ?_, by simp only [madeEvs, List.length_append, List.length_cons]; omega⟩
    rw [madeEvs, List.mem_append] at he
    rcases he with he | he
    · exact madeEv_size least s (h s (List.mem_cons_self ..)) e he
    · exact i1 e he

section
variable (least : Int) (w : World) (A : Option Addr) (len cap : Nat)
set_option maxRecDepth 100000 in
set_option maxHeartbeats 400000 in
theorem lawLgA_no1 (h2 : (2147483647 : Int) < (len : Int)) : Calls Tryz.prog 11 #[.int .i64 least, .slice A len cap] w (YesEnd w) := by
  unfold YesEnd
  go_enter Tryz.func11, Tryz.ntmps11
  go_wp2
  go_ret
  exact ⟨rfl, Below.refl _ _⟩

set_option maxRecDepth 100000 in
set_option maxHeartbeats 400000 in
theorem lawLgA_no2 (h2 : ¬ (2147483647 : Int) < (len : Int)) (cF : ∀ wx, Keeps w wx → Calls Tryz.prog 33 #[.slice A len cap] wx (BoolEnd false wx)) : Calls Tryz.prog 11 #[.int .i64 least, .slice A len cap] w (YesEnd w) := by
  unfold YesEnd
  have CF := Lib.hid cF
  clear cF
  go_enter Tryz.func11, Tryz.ntmps11
  go_wp2_with (go_at_call 33; (with_reducible refine (CF.out _ (keeps_of_below (by repeat' (first | with_reducible assumption | with_reducible exact Below.refl _ _ | with_reducible refine Below.setCell ?_ ?_ _ | with_reducible refine Below.alloc ?_ ?_ _ | with_reducible refine Below.drew ?_ | with_reducible refine below_drewN ?_ _ | omega | (simp; done) | (simp; omega))))).mono ?_); rintro e w2 ⟨rfl, hb2⟩; have hB2 := keeps_below (show Below w.heap.size w _ from (by repeat' (first | with_reducible assumption | with_reducible exact Below.refl _ _ | with_reducible refine Below.setCell ?_ ?_ _ | with_reducible refine Below.alloc ?_ ?_ _ | with_reducible refine Below.drew ?_ | with_reducible refine below_drewN ?_ _ | omega | (simp; done) | (simp; omega)))) hb2)
  go_ret
  exact ⟨rfl, hB2⟩

set_option maxRecDepth 100000 in
set_option maxHeartbeats 1000000 in
theorem lawLgA_core (h2 : ¬ (2147483647 : Int) < (len : Int)) (cF : ∀ wx, Keeps w wx → Calls Tryz.prog 33 #[.slice A len cap] wx (BoolEnd true wx))
    (lw lm : List GEv) (cP : ∀ wx, Keeps w wx → Calls Tryz.prog 34 #[.int .i64 least, .slice A len cap] wx (EvsPost lw wx))
    (cL : ∀ wx, Keeps w wx → Calls Tryz.prog 35 #[.int .i64 least, .slice A len cap] wx (EvsPost lm wx))
    (cS : ∀ wx (P P' : Nat → Prop) A1 A2 l1 c1 l2 c2, REvS P wx lm A1 l1 → REvS P' wx lw A2 l2 → Calls Tryz.prog 29 #[.slice A1 l1 c1, .slice A2 l2 c2] wx (YesEnd wx)) :
    Calls Tryz.prog 11 #[.int .i64 least, .slice A len cap] w (YesEnd w) := by
  unfold YesEnd
  have CF := Lib.hid cF
  have CP := Lib.hid cP
  have CL := Lib.hid cL
  have CS := Lib.hid cS
  clear cF cP cL cS
  unfold YesEnd at CS
  unfold EvsPost at CP CL
  go_enter Tryz.func11, Tryz.ntmps11
  go_wp2_with (first
    | (go_at_call 33; (with_reducible refine (CF.out _ (keeps_of_below (by repeat' (first | with_reducible assumption | with_reducible exact Below.refl _ _ | with_reducible refine Below.setCell ?_ ?_ _ | with_reducible refine Below.alloc ?_ ?_ _ | with_reducible refine Below.drew ?_ | with_reducible refine below_drewN ?_ _ | omega | (simp; done) | (simp; omega))))).mono ?_); rintro e w2 ⟨rfl, hb2⟩; have hB2 := keeps_below (show Below w.heap.size w _ from (by repeat' (first | with_reducible assumption | with_reducible exact Below.refl _ _ | with_reducible refine Below.setCell ?_ ?_ _ | with_reducible refine Below.alloc ?_ ?_ _ | with_reducible refine Below.drew ?_ | with_reducible refine below_drewN ?_ _ | omega | (simp; done) | (simp; omega)))) hb2)
    | (go_at_call 34; (with_reducible refine (CP.out _ (keeps_of_below hB2)).mono ?_); rintro e w3 ⟨A3, l3, c3, rfl, hr3, hb3⟩; have hB3 := keeps_below hB2 hb3; have HR3 := Lib.hid hr3; clear hr3 hb3)
    | (go_at_call 35; (with_reducible refine (CL.out _ (keeps_of_below hB3)).mono ?_); rintro e w4 ⟨A4, l4, c4, rfl, hr4, hb4⟩; have HK4 := Lib.hid (keeps_of_below hb4); have hB4 := keeps_below hB3 hb4; have HR4 := Lib.hid hr4; clear hr4 hb4)
    | (go_at_call 29; ((with_reducible refine (CS.out _ _ _ A4 A3 l4 c4 l3 c3 HR4.out (HR3.out.keep HK4.out)).mono ?_); rintro e w8 ⟨rfl, hb8⟩; have hB8 := keeps_below hB4 hb8)))
  go_ret
  exact ⟨rfl, hB8⟩
end

/-- laws.FnLgAsked. -/
theorem lawLgA_any (least : Int) (l : List GStep) (w : World) (A : Option Addr) (len cap : Nat) (hw : stepsWf l) (hl : RStepS w l A len) :
    Calls Tryz.prog 11 #[.int .i64 least, .slice A len cap] w (YesEnd w) := by
  have hll := hl.1
  by_cases h2 : (2147483647 : Int) < (len : Int)
  · exact lawLgA_no1 least w A len cap h2
  by_cases h4 : (len : Int) ≤ 200
  · have cF := fun wx (hk : Keeps w wx) => lgFine_yes l wx A len cap hw (hl.keep hk) h4
    by_cases h3 : 0 ≤ lgLeft l 65536
    · rw [decide_eq_true h3] at cF
      have hf := steps_fine l 65536 (by omega) hw h3
      obtain ⟨z1, z2⟩ := madeEvs_size least l (fun s hs => (hf s hs).1)
      exact lawLgA_core least w A len cap h2 cF (wantEvs least l) (madeEvs least l)
        (fun wx hk => lgPlay_any least l wx A len cap (hl.keep hk) (fun s hs => (hf s hs).1) (by omega))
        (fun wx hk => logger_any least l wx A len cap (hl.keep hk) (fun s hs => (hf s hs).2.1) (by omega))
        (fun wx P P' A1 A2 l1 c1 l2 c2 h1 h2 => lgSame_any _ _ wx A1 A2 l1 c1 l2 c2 (evs_same least l (fun s hs => (hf s hs).2.2)) h1 h2 z1 (by omega))
    · rw [decide_eq_false h3] at cF
      exact lawLgA_no2 least w A len cap h2 cF
  · exact lawLgA_no2 least w A len cap h2 (fun wx _ => lgFine_no l wx A len cap h4)

end Go.Proofs.YtihhgnbgejjijaaGreatDoor.Va

/- FnLgWays, plain Lean: a step turned into Log. -/
namespace Go.Proofs.YtihhgnbgejjijaaGreatDoor.Va
set_option linter.unusedVariables false
set_option linter.unusedSimpArgs false
open Go Go.RowKit

def way (s : GStep) : GStep :=
  if s.act = 3 then ⟨2, s.name, s.level, s.msg, wholeArgs s.attrs, s.attrs⟩
  else if 3 < s.act ∧ s.act < 8 then ⟨2, s.name, 4 * (s.act - 5), s.msg, s.args, s.attrs⟩ else s
theorem way_three {s : GStep} (h : s.act = 3) : way s = ⟨2, s.name, s.level, s.msg, wholeArgs s.attrs, s.attrs⟩ := by rw [way, if_pos h]
theorem way_four {s : GStep} (h : 3 < s.act) (h8 : s.act < 8) : way s = ⟨2, s.name, 4 * (s.act - 5), s.msg, s.args, s.attrs⟩ := by rw [way, if_neg (by omega), if_pos ⟨h, h8⟩]
theorem way_else {s : GStep} (h : s.act ≠ 3) (h8 : ¬ (3 < s.act ∧ s.act < 8)) : way s = s := by rw [way, if_neg h, if_neg h8]
theorem argsTold_whole (l : GAttrs) : argsTold (wholeArgs l) = attrsTold (attrsOf none l).full := by unfold argsTold; rw [(whole_raw l).1]
theorem way_made (least : Int) (s : GStep) : madeEv least (way s) = madeEv least s := by
  by_cases h3 : s.act = 3
  · rw [way_three h3, madeEv_log least ⟨2, s.name, s.level, s.msg, wholeArgs s.attrs, s.attrs⟩ (show (2 : Int) ≠ 0 by decide) (show (2 : Int) ≠ 1 by decide) (show (2 : Int) ≠ 8 by decide), madeEv_log least s (by omega) (by omega) (by omega)]
    have e : lgLevel ⟨2, s.name, s.level, s.msg, wholeArgs s.attrs, s.attrs⟩ = lgLevel s := by unfold lgLevel; simp [h3]
    rw [e, if_pos h3]
    simp only [argsTold_whole]
    rfl
  · by_cases h4 : 3 < s.act ∧ s.act < 8
    · rw [way_four h4.1 h4.2, madeEv_log least ⟨2, s.name, 4 * (s.act - 5), s.msg, s.args, s.attrs⟩ (show (2 : Int) ≠ 0 by decide) (show (2 : Int) ≠ 1 by decide) (show (2 : Int) ≠ 8 by decide), madeEv_log least s (by omega) (by omega) (by omega)]
      have e : lgLevel ⟨2, s.name, 4 * (s.act - 5), s.msg, s.args, s.attrs⟩ = lgLevel s := by
        have : lgLevel s = 4 * (s.act - 5) := by unfold lgLevel; (repeat' split) <;> omega
        rw [this]; rfl
      rw [e, if_neg h3]
      rfl
    · rw [way_else h3 h4]
theorem ways_made (least : Int) : ∀ l : List GStep, madeEvs least (l.map way) = madeEvs least l
  | [] => rfl
  | s :: r => by simp only [List.map_cons, madeEvs, way_made, ways_made least r]
/-- The step behind all others: the question whether the handler is enabled. -/
def stepAsk : GStep := ⟨8, ByteArray.empty, 1, ByteArray.empty, [], .nil⟩
theorem stepAsk_made (least : Int) : madeEv least stepAsk = [evAsk least 1] := by
  unfold madeEv stepAsk
  simp [lgLevel]
theorem stepAsk_ok : playOk stepAsk ∧ madeOk stepAsk ∧ stepOk stepAsk :=
  ⟨⟨by decide, by decide, by decide⟩, ⟨by decide, by decide, ⟨trivial, trivial, trivial, by decide, by decide, by decide⟩, by decide, by unfold stepAsk GAttrs.wf; trivial, by decide, by decide⟩, ⟨trivial, trivial, by decide, by unfold stepAsk goodAll; trivial, by unfold stepAsk GAttrs.wf; trivial, by decide⟩⟩
/-- FnLgWays' two sides. -/
theorem ways_same (least : Int) (l : List GStep) (h : ∀ s ∈ l, stepOk s) :
    madeEvs least (l.map way ++ [stepAsk]) = madeEvs least (l ++ [stepAsk]) ∧ SameEvs (madeEvs least (l ++ [stepAsk])) (madeEvs least (l ++ [stepAsk])) ∧ 0 < (madeEvs least (l ++ [stepAsk])).length := by
  refine ⟨by rw [madeEvs_app, madeEvs_app, ways_made], ?_, ?_⟩
  · refine sameEvs_left (evs_same least (l ++ [stepAsk]) (fun s hs => ?_))
    rcases List.mem_append.1 hs with hs | hs
    · exact h s hs
    · rw [List.mem_singleton.1 hs]; exact stepAsk_ok.2.2
  · rw [madeEvs_app, List.length_append]
    simp only [madeEvs, stepAsk_made, List.append_nil, List.length_singleton]
    omega
theorem whole_pairsOk : ∀ l : GAttrs, pairsOk (wholeArgs l)
  | .nil => trivial
  | .cons k v .nil => trivial
  | .cons k v (.cons k2 v2 r2) => by
    show pairsOk (_ :: _ :: _)
    rw [pairsOk, if_neg (by intro h; have := h.1; simp at this)]
    exact whole_pairsOk (.cons k2 v2 r2)
/-- A turned step is such as impl.Logger takes. -/
theorem way_ok (s : GStep) (hp : playOk s) (hm : madeOk s) (ho : stepOk s) : madeOk (way s) := by
  obtain ⟨hp1, hp2, hp3⟩ := hp
  obtain ⟨m1, m2, m3, m4, m5, m6, m7⟩ := hm
  obtain ⟨o1, o2, o3, o4, o5, o6⟩ := ho
  by_cases h3 : s.act = 3
  · rw [way_three h3]
    obtain ⟨q1, q2, q3, q4⟩ := whole_facts s.attrs o4 o5
    have hl := len_le_size s.attrs
    have hwl := wholeArgs_len s.attrs
    have v1 := vsize_full (attrsOf none s.attrs)
    have v2 := vsize_all none s.attrs
    have he := (whole_raw s.attrs).1
    exact ⟨show (0 : Int) ≤ 2 by decide, show (2 : Int) ≤ 8 by decide, ⟨argsOk_of _ q1 (show argsSize (wholeArgs s.attrs) ≤ 65536 by omega), q2, whole_pairsOk _, by show (wholeArgs s.attrs).length ≤ _; omega, by show vSizeAll (attrsOf none (rcRaw (wholeArgs s.attrs))).full ≤ _; rw [he]; omega, by show vSizeAll (attrsOf none (rcRaw (wholeArgs s.attrs))) ≤ _; rw [he]; omega⟩, m4, m5, m6, m7⟩
  · by_cases h4 : 3 < s.act ∧ s.act < 8
    · rw [way_four h4.1 h4.2]
      exact ⟨show (0 : Int) ≤ 2 by decide, show (2 : Int) ≤ 8 by decide, m3, m4, m5, m6, m7⟩
    · rw [way_else h3 h4]
      exact ⟨m1, m2, m3, m4, m5, m6, m7⟩

end Go.Proofs.YtihhgnbgejjijaaGreatDoor.Va
