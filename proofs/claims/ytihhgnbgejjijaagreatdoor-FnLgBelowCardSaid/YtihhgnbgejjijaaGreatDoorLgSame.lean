/- Steps with a Logger (LogStep of package impl): plain data, and how they lie in memory. -/
import Derived.Test.YtihhgnbgejjijaaGreatDoorRcArgs
import Derived.Test.YtihhgnbgejjijaaGreatDoorEvR
import Derived.Test.YtihhgnbgejjijaaGreatDoorArgsP
import Derived.Test.YtihhgnbgejjijaaGreatDoorSameB
namespace Go.Proofs.YtihhgnbgejjijaaGreatDoor.Va
set_option linter.unusedVariables false
set_option linter.unusedSimpArgs false
open Go Go.RowKit

/-- A step with a Logger. -/
structure GStep where
  act : Int
  name : ByteArray
  level : Int
  msg : ByteArray
  args : List GArg
  attrs : GAttrs
/-- A row of them from a place on; a slice. -/
def RSteps (w : World) : List GStep → Nat → Nat → Prop
  | [], _, _ => True
  | s :: r, b, o => w.cell? ⟨b, o, none⟩ = some (.int .i64 s.act) ∧ w.cell? ⟨b, o + 1, none⟩ = some (.string s.name) ∧ w.cell? ⟨b, o + 2, none⟩ = some (.int .i64 s.level) ∧ w.cell? ⟨b, o + 3, none⟩ = some (.string s.msg) ∧
      (∃ A len cap, w.cell? ⟨b, o + 4, none⟩ = some (.slice A len cap) ∧ len ≤ cap ∧ RArgS w s.args A len) ∧ (∃ A len cap, w.cell? ⟨b, o + 5, none⟩ = some (.slice A len cap) ∧ RS w s.attrs A len) ∧ RSteps w r b (o + 6)
def RStepS (w : World) (l : List GStep) (A : Option Addr) (len : Nat) : Prop := len = l.length ∧ (0 < len → ∃ b o, A = some ⟨b, o, none⟩ ∧ RSteps w l b o)
theorem RSteps.keep {w w' : World} (hk : Keeps w w') : ∀ (l : List GStep) (b o : Nat), RSteps w l b o → RSteps w' l b o
  | [], _, _, _ => trivial
  | s :: r, b, o, h => by
    obtain ⟨h0, h1, h2, h3, ⟨A, n, c, h4, hc, ha⟩, ⟨A2, n2, c2, h5, ha2⟩, hr⟩ := h
    exact ⟨hk.cell h0, hk.cell h1, hk.cell h2, hk.cell h3, ⟨A, n, c, hk.cell h4, hc, ha.keep hk⟩, ⟨A2, n2, c2, hk.cell h5, ha2.keep hk⟩, RSteps.keep hk r b (o + 6) hr⟩
theorem RStepS.keep {w w' : World} {l : List GStep} {A : Option Addr} {len : Nat} (h : RStepS w l A len) (hk : Keeps w w') : RStepS w' l A len :=
  ⟨h.1, fun hp => by obtain ⟨b, o, e, hr⟩ := h.2 hp; exact ⟨b, o, e, RSteps.keep hk l b o hr⟩⟩
def i64 (n : Int) : Prop := -9223372036854775808 ≤ n ∧ n ≤ 9223372036854775807
def stepWf (s : GStep) : Prop := i64 s.act ∧ s.name.size ≤ 140737488355328 ∧ i64 s.level ∧ s.msg.size ≤ 140737488355328 ∧ argsWf s.args ∧ s.args.length ≤ 140737488355328 ∧ s.attrs.wf ∧ s.attrs.len ≤ 140737488355328
def stepsWf : List GStep → Prop
  | [] => True
  | s :: r => stepWf s ∧ stepsWf r

/-- spec.LgLeft, 20 deep. -/
def lgLeft : List GStep → Int → Int
  | [], left => left
  | s :: r, left =>
    if left - (1 + s.name.size + s.msg.size) < 0 ∨ s.act < 0 ∨ 8 < s.act then -1
    else if rcLeft s.args false (left - (1 + s.name.size + s.msg.size)) < 0 then -1
    else if vaLeftAll s.attrs 20 (rcLeft s.args false (left - (1 + s.name.size + s.msg.size))) < 0 then -1
    else lgLeft r (vaLeftAll s.attrs 20 (rcLeft s.args false (left - (1 + s.name.size + s.msg.size))))
theorem lgLeft_no1 {s : GStep} {r : List GStep} {left : Int} (h : left - (1 + s.name.size + s.msg.size) < 0 ∨ s.act < 0 ∨ 8 < s.act) : lgLeft (s :: r) left = -1 := by rw [lgLeft, if_pos h]
theorem lgLeft_no2 {s : GStep} {r : List GStep} {left : Int} (h : ¬ (left - (1 + s.name.size + s.msg.size) < 0 ∨ s.act < 0 ∨ 8 < s.act)) (h2 : rcLeft s.args false (left - (1 + s.name.size + s.msg.size)) < 0) : lgLeft (s :: r) left = -1 := by rw [lgLeft, if_neg h, if_pos h2]
theorem lgLeft_no3 {s : GStep} {r : List GStep} {left : Int} (h : ¬ (left - (1 + s.name.size + s.msg.size) < 0 ∨ s.act < 0 ∨ 8 < s.act)) (h2 : ¬ rcLeft s.args false (left - (1 + s.name.size + s.msg.size)) < 0)
    (h3 : vaLeftAll s.attrs 20 (rcLeft s.args false (left - (1 + s.name.size + s.msg.size))) < 0) : lgLeft (s :: r) left = -1 := by rw [lgLeft, if_neg h, if_neg h2, if_pos h3]
theorem lgLeft_on {s : GStep} {r : List GStep} {left : Int} (h : ¬ (left - (1 + s.name.size + s.msg.size) < 0 ∨ s.act < 0 ∨ 8 < s.act)) (h2 : ¬ rcLeft s.args false (left - (1 + s.name.size + s.msg.size)) < 0)
    (h3 : ¬ vaLeftAll s.attrs 20 (rcLeft s.args false (left - (1 + s.name.size + s.msg.size))) < 0) : lgLeft (s :: r) left = lgLeft r (vaLeftAll s.attrs 20 (rcLeft s.args false (left - (1 + s.name.size + s.msg.size)))) := by rw [lgLeft, if_neg h, if_neg h2, if_neg h3]
theorem rcLeft_le : ∀ (l : List GArg) (t : Bool) (left : Int), 0 ≤ left → rcLeft l t left ≤ left
  | [], _, left, _ => by rw [rcLeft]; exact Int.le_refl _
  | a :: r, t, left, h => by
    by_cases h1 : left - a.key.size < 0 ∨ a.what < 0 ∨ 2 < a.what ∨ (t = true ∧ a.what = 0)
    · rw [rcLeft_no h1]; omega
    · by_cases h2 : vaLeft a.val 20 (left - a.key.size) < 0
      · rw [rcLeft_val h1 h2]; omega
      · rw [rcLeft_on h1 h2]
        have h3 := vaLeft_le a.val 20 (left - a.key.size)
        have := rcLeft_le r (!t && decide (a.what = 1) && decide (a.val.kind = 5)) (vaLeft a.val 20 (left - a.key.size)) (by omega)
        have h4 : ¬ left - a.key.size < 0 := fun e => h1 (.inl e)
        have := h3 (by omega)
        omega

end Go.Proofs.YtihhgnbgejjijaaGreatDoor.Va

/- What a Logger asks its handler, by the program and by the reference: plain Lean. -/
namespace Go.Proofs.YtihhgnbgejjijaaGreatDoor.Va
set_option linter.unusedVariables false
set_option linter.unusedSimpArgs false
open Go Go.RowKit

def lgLevel (s : GStep) : Int := if s.act = 4 then -4 else if s.act = 5 then 0 else if s.act = 6 then 4 else if s.act = 7 then 8 else s.level
/-- What one step asks, by the reference. -/
def wantEv (least : Int) (s : GStep) : List GEv :=
  if s.act = 0 then (match s.args with | [] => [] | _ => [⟨1, 0, false, ByteArray.empty, ByteArray.empty, tidyMap (rcRaw s.args)⟩])
  else if s.act = 1 then (if s.name = ByteArray.empty then [] else [⟨2, 0, false, s.name, ByteArray.empty, .nil⟩])
  else if s.act = 8 ∨ lgLevel s < least then [evAsk least (lgLevel s)]
  else [evAsk least (lgLevel s), ⟨3, lgLevel s, false, ByteArray.empty, s.msg, if s.act = 3 then vaTidyAll s.attrs else vaTidyAll (rcRaw s.args)⟩]
/-- What one step asks, by the program. -/
def madeEv (least : Int) (s : GStep) : List GEv :=
  if s.act = 0 then (match s.args with | [] => [] | _ => [⟨1, 0, false, ByteArray.empty, ByteArray.empty, attrsTold (attrsOf none (rcRaw s.args))⟩])
  else if s.act = 1 then (if s.name = ByteArray.empty then [] else [⟨2, 0, false, s.name, ByteArray.empty, .nil⟩])
  else if s.act = 8 ∨ lgLevel s < least then [evAsk least (lgLevel s)]
  else [evAsk least (lgLevel s), ⟨3, lgLevel s, false, ByteArray.empty, s.msg, if s.act = 3 then attrsTold (attrsOf none s.attrs).full else argsTold s.args⟩]
def wantEvs (least : Int) : List GStep → List GEv
  | [] => []
  | s :: r => wantEv least s ++ wantEvs least r
def madeEvs (least : Int) : List GStep → List GEv
  | [] => []
  | s :: r => madeEv least s ++ madeEvs least r

def SameEv (a b : GEv) : Prop := a.what = b.what ∧ a.level = b.level ∧ a.yes = b.yes ∧ a.name = b.name ∧ a.msg = b.msg ∧ SameL a.attrs b.attrs
def SameEvs : List GEv → List GEv → Prop
  | [], [] => True
  | a :: r, b :: s => SameEv a b ∧ SameEvs r s
  | _, _ => False
theorem sameEvs_app : ∀ {a b : List GEv} {c d : List GEv}, SameEvs a b → SameEvs c d → SameEvs (a ++ c) (b ++ d)
  | [], [], _, _, _, h => h
  | _ :: _, _ :: _, _, _, h, k => ⟨h.1, sameEvs_app h.2 k⟩
  | [], _ :: _, _, _, h, _ => h.elim
  | _ :: _, [], _, _, h, _ => h.elim
theorem sameEvs_len : ∀ {a b : List GEv}, SameEvs a b → a.length = b.length
  | [], [], _ => rfl
  | _ :: r, _ :: s, h => by simp only [List.length_cons]; rw [sameEvs_len h.2]
  | [], _ :: _, h => h.elim
  | _ :: _, [], h => h.elim

/-- A row of attributes, made and told. -/
theorem attrsTold_same (m : GAttrs) (hg : goodAll m) (hw : m.wf) (hlen : m.len ≤ 140737488355328) : SameL (attrsTold (attrsOf none m).full) (vaTidyAll m) := by
  have hgd : good (.mk 8 0 ByteArray.empty .zero m) := by unfold good; exact ⟨by omega, by omega, fun h => by omega, fun h => by omega, fun h => by omega, fun h => by omega, hg⟩
  have hwd : (GVal.mk 8 0 ByteArray.empty .zero m).wf := by unfold GVal.wf; exact ⟨by omega, by omega, Nat.zero_le _, by decide, by decide, by decide, by omega, hw⟩
  have hP := made_size none _ (.mk 8 0 ByteArray.empty .zero m) (Nat.le_refl _) hwd hgd
  have e1 : told (.group (attrsOf none m).full) = .mk 8 0 ByteArray.empty .zero (attrsTold (attrsOf none m).full) := by simp only [told]
  have e2 : vaTidy (.mk 8 0 ByteArray.empty .zero m) = .mk 8 0 ByteArray.empty .zero (vaTidyAll m) := ptidy_grp _ _ _ _
  have e3 : valueOf none (.mk 8 0 ByteArray.empty .zero m) = .group (attrsOf none m).full := pvalue_grp _ _ _ _ _
  rw [e3, e1, e2] at hP
  unfold Same at hP
  simpa using hP.2
/-- The same of those that are handed over as they are. -/
theorem attrsTold_map (m : GAttrs) (hg : goodAll m) (hw : m.wf) : SameL (attrsTold (attrsOf none m)) (tidyMap m) :=
  made_list none m (all_of m.size m (Nat.le_refl _) hg hw (fun v _ h1 h2 => made_size none _ v (Nat.le_refl _) h2 h1))

def stepOk (s : GStep) : Prop := argsGood s.args ∧ argsWf s.args ∧ s.args.length ≤ 140737488355328 ∧ goodAll s.attrs ∧ s.attrs.wf ∧ s.attrs.len ≤ 140737488355328
theorem ev_same (least : Int) (s : GStep) (h : stepOk s) : SameEvs (madeEv least s) (wantEv least s) := by
  obtain ⟨h1, h2, h3, h4, h5, h6⟩ := h
  have nn : SameL .nil .nil := by unfold SameL; trivial
  unfold madeEv wantEv
  by_cases a0 : s.act = 0
  · rw [if_pos a0, if_pos a0]
    cases hs : s.args with
    | nil => trivial
    | cons a r =>
      have := attrsTold_map (rcRaw s.args) (rcRaw_good _ h1) (rcRaw_wf _ h2)
      rw [hs] at this
      exact ⟨⟨rfl, rfl, rfl, rfl, rfl, this⟩, trivial⟩
  · rw [if_neg a0, if_neg a0]
    by_cases a1 : s.act = 1
    · rw [if_pos a1, if_pos a1]
      by_cases hn : s.name = ByteArray.empty
      · rw [if_pos hn]; trivial
      · rw [if_neg hn]; exact ⟨⟨rfl, rfl, rfl, rfl, rfl, nn⟩, trivial⟩
    · rw [if_neg a1, if_neg a1]
      by_cases a8 : s.act = 8 ∨ lgLevel s < least
      · rw [if_pos a8, if_pos a8]; exact ⟨⟨rfl, rfl, rfl, rfl, rfl, nn⟩, trivial⟩
      · rw [if_neg a8, if_neg a8]
        refine ⟨⟨rfl, rfl, rfl, rfl, rfl, nn⟩, ⟨rfl, rfl, rfl, rfl, rfl, ?_⟩, trivial⟩
        by_cases a3 : s.act = 3
        · rw [if_pos a3, if_pos a3]; exact attrsTold_same s.attrs h4 h5 h6
        · rw [if_neg a3, if_neg a3]; exact argsTold_same s.args h1 h2 h3
theorem evs_same (least : Int) : ∀ l : List GStep, (∀ s ∈ l, stepOk s) → SameEvs (madeEvs least l) (wantEvs least l)
  | [], _ => trivial
  | s :: r, h => sameEvs_app (ev_same least s (h s (List.mem_cons_self ..))) (evs_same least r (fun x hx => h x (List.mem_cons_of_mem _ hx)))

end Go.Proofs.YtihhgnbgejjijaaGreatDoor.Va

/- spec.LgSame, where it says yes: the walk. -/
namespace Go.Proofs.YtihhgnbgejjijaaGreatDoor.Va
set_option linter.unusedVariables false
set_option linter.unusedSimpArgs false
open Go Go.RowKit

def All : Nat → Prop := fun _ => True
/-- One round. -/
def LsRnd (w : World) (n : Nat) (b1 o1 b2 o2 : Nat) (s15 : Value) (wr : World) : Prop :=
  ∃ (k : Nat) (ra rb : List GEv), k + ra.length = n ∧ s15 = .int .i64 k ∧ SameEvs ra rb ∧ REvs All w ra b1 (o1 + k * 6) ∧ REvs All w rb b2 (o2 + k * 6) ∧ (∀ e ∈ ra, e.attrs.size ≤ 3000000) ∧ Below w.heap.size w wr

set_option maxRecDepth 100000 in
set_option maxHeartbeats 2000000 in
/-- spec.LgSame. -/
theorem lgSame_any {P P' : Nat → Prop} (a b : List GEv) (w : World) (A B : Option Addr) (la ca lb cb : Nat) (hs : SameEvs a b) (ha : REvS P w a A la) (hb : REvS P' w b B lb) (hz : ∀ e ∈ a, e.attrs.size ≤ 3000000) (hn : a.length ≤ 300000) :
    Calls Tryz.prog 29 #[.slice A la ca, .slice B lb cb] w (YesEnd w) := by
  have hll := sameEvs_len hs
  obtain ⟨Q, hQ⟩ : ∃ Q : Ending → World → Prop, Q = YesEnd w := ⟨_, rfl⟩
  rw [← hQ]
  have HQ := Lib.hid hQ
  have ha := ha.turn (Q := All) (KeepsOn.refl _ _) (fun _ _ _ => trivial)
  have hb := hb.turn (Q := All) (KeepsOn.refl _ _) (fun _ _ _ => trivial)
  have hlen : lb = la := by have h1 := ha.1; have h2 := hb.1; omega
  subst hlen
  have hst : ∃ b1 o1 b2 o2, (0 < lb → A = some ⟨b1, o1, none⟩ ∧ B = some ⟨b2, o2, none⟩) ∧ LsRnd w a.length b1 o1 b2 o2 (.int .i64 0) w := by
    by_cases hp : 0 < lb
    · obtain ⟨b1, o1, e1, _, h1⟩ := ha.2 hp
      obtain ⟨b2, o2, e2, _, h2⟩ := hb.2 hp
      exact ⟨b1, o1, b2, o2, fun _ => ⟨e1, e2⟩, 0, a, b, by omega, rfl, hs, by simpa using h1, by simpa using h2, hz, Below.refl _ _⟩
    · have ea : a = [] := List.length_eq_zero_iff.1 (by have := ha.1; omega)
      have eb : b = [] := List.length_eq_zero_iff.1 (by have := hb.1; omega)
      subst ea eb
      exact ⟨0, 0, 0, 0, fun h => absurd h hp, 0, [], [], rfl, rfl, trivial, trivial, trivial, hz, Below.refl _ _⟩
  obtain ⟨b1, o1, b2, o2, hA, hst⟩ := hst
  have HA := Lib.hid hA
  have HS := Lib.hid hst
  have Hla := Lib.hid ha.1
  clear hQ hs ha hb hz hA hst hll
  go_enter Tryz.func29, Tryz.ntmps29
  go_wp2
  go_loopw [15] (fun x wr => LsRnd w a.length b1 o1 b2 o2 x wr) (fun x _ => lb - (intOf x).toNat)
  case atStart => exact HS.out
  case round =>
    clear HS
    obtain ⟨k, ra, rb, hk, rfl, hs, h1, h2, hz, hB⟩ := hrel
    have hla := Hla.out
    have hsz := hB.size
    have HB := Lib.hid hB
    cases ra with
    | nil =>
      have hke : ¬ ((k : Int) < (lb : Int)) := by simp at hk; omega
      clear hk hla hs h1 h2 hz hB
      go_wp2
      rw [HQ.out]
      exact ⟨rfl, HB.out⟩
    | cons e r =>
      cases rb with
      | nil => exact hs.elim
      | cons e' r' =>
        have hlt : (k : Int) < (lb : Int) := by simp only [List.length_cons] at hk; omega
        have hk0 : (0 : Int) ≤ (k : Int) := by omega
        have hkk : k + 1 + r.length = a.length := by simp only [List.length_cons] at hk; omega
        obtain ⟨rfl, rfl⟩ := HA.out (by omega)
        obtain ⟨⟨s0, s1, s2, s3, s4, s5⟩, hs'⟩ := hs
        obtain ⟨p0, p1, p2, p3, p4, ⟨Ap1, lp, cp, p5, hp⟩, hr1⟩ := h1
        obtain ⟨q0, q1, q2, q3, q4, ⟨Aq, lq, cq, q5, hq⟩, hr2⟩ := h2
        have hze := hz e (List.mem_cons_self ..)
        have hzr : ∀ x ∈ r, x.attrs.size ≤ 3000000 := fun x hx => hz x (List.mem_cons_of_mem _ hx)
        obtain ⟨w0, l0, y0, n0, m0, t0⟩ := e
        obtain ⟨w1, l1, y1, n1, m1, t1⟩ := e'
        simp only at s0 s1 s2 s3 s4 s5 p0 p1 p2 p3 p4 p5 hp q0 q1 q2 q3 q4 q5 hq hze
        subst s0 s1 s2 s3 s4
        have hK := keeps_of_below hB
        have p0 := hK.cell p0
        have p1 := hK.cell p1
        have p2 := hK.cell p2
        have p3 := hK.cell p3
        have p4 := hK.cell p4
        have p5 := hK.cell p5
        have q0 := hK.cell q0
        have q1 := hK.cell q1
        have q2 := hK.cell q2
        have q3 := hK.cell q3
        have q4 := hK.cell q4
        have q5 := hK.cell q5
        have hb1 : b1 < wr.heap.size := World.block_lt_of_cell? wr _ p0
        have hb2 : b2 < wr.heap.size := World.block_lt_of_cell? wr _ q0
        have hb1' : b1 < wr.heap.size + 1 := by omega
        have hb2' : b2 < wr.heap.size + 1 := by omega
        have CS := Lib.hid (fun wx (hk : Keeps wr wx) => same_any_l t0 hze t1 wx Ap1 Aq lp cp lq cq s5 (by have := len_le_size t0; omega) ((hp.rs.keep hK).keep hk) ((hq.rs.keep hK).keep hk))
        unfold YesEnd at CS
        have HR1 := Lib.hid hr1
        have HR2 := Lib.hid hr2
        have HSr := Lib.hid hs'
        have HZr := Lib.hid hzr
        clear hk hla hp hq hr1 hr2 hs' s5 hz hzr hze hK hB
        go_wp2_with (go_at_call 18; (refine (CS.out _ (keeps_of_below (((Below.refl _ _).alloc (Nat.le_refl _) _).alloc (by simp) _))).mono ?_); rintro e w5 ⟨rfl, hb5⟩; have HB5 := Lib.hid hb5; clear hb5)
        refine ⟨⟨k + 1, r, r', hkk, by push_cast; rfl, HSr.out, ?_, ?_, HZr.out, keeps_below ((HB.out.alloc (by omega) _).alloc (by simp; omega) _) HB5.out⟩, ?_⟩
        · have := HR1.out; rwa [show o1 + k * 6 + 6 = o1 + (k + 1) * 6 by omega] at this
        · have := HR2.out; rwa [show o2 + k * 6 + 6 = o2 + (k + 1) * 6 by omega] at this
        · simp only [intOf]; omega

end Go.Proofs.YtihhgnbgejjijaaGreatDoor.Va
