/- A region's last operation, which waits for all the others, is taken apart from it. -/
import Derived.Deep.RegionHeld3
import Derived.Test.YtihhgnbgejjijaaGreatDoorClosA
import Derived.Test.YtihhgnbgejjijaaGreatDoorEvR
import Derived.Test.YtihhgnbgejjijaaGreatDoorNewRec
import Derived.Test.YtihhgnbgejjijaaGreatDoorAdd
import Derived.Test.YtihhgnbgejjijaaGreatDoorArgsP
namespace Go.Proofs.YtihhgnbgejjijaaGreatDoor.Va
set_option linter.unusedVariables false
set_option linter.unusedSimpArgs false
open Go Go.RowKit

/-- Operation n waits for all those ahead of it; no edge leads forward; no guard names n. -/
def lastOk (ops : Array Oper) (n : Nat) : Bool :=
  ((List.range n).all fun j => ((ops[n]?).map fun o => o.after.any fun e => Region.binds .any e && e.on == j).getD false) &&
  ((List.range (n + 1)).all fun i => ((ops[i]?).map fun o => (o.after.all fun e => decide (e.on < i)) && (match o.guard with | none => true | some (g, _) => decide (g < n))).getD true)
/-- What is left behind the others: operation n, then the rest. -/
def LastQ (P : Program) (ops : Array Oper) (n : Nat) (Q : Exit → Act → World → Prop) : Exit → Act → World → Prop
  | .normal, a, w => wpOp P ops Q n (Q .normal) a w
  | .exit i, a, w => Q (.exit i) a w
  | .goto i, a, w => Q (.goto i) a w
  | .ret, a, w => Q .ret a w
  | .panic c, a, w => Q (.panic c) a w
  | .outgrown, a, w => Q .outgrown a w

section
variable {P : Program} {ops : Array Oper} {n : Nat} {Q : Exit → Act → World → Prop}

theorem lastOk_waits (h : lastOk ops n = true) {j : Nat} (hj : j < n) : ∃ o, ops[n]? = some o ∧ ∃ e ∈ o.after, Region.binds .any e = true ∧ e.on = j := by
  unfold lastOk at h
  rw [Bool.and_eq_true] at h
  have h1 := List.all_eq_true.1 h.1 j (List.mem_range.2 hj)
  cases ho : ops[n]? with
  | none => rw [ho] at h1; simp at h1
  | some o =>
    rw [ho] at h1
    simp only [Option.map_some, Option.getD_some] at h1
    obtain ⟨e, he, hb⟩ := Array.any_eq_true'.1 h1
    simp only [Bool.and_eq_true, beq_iff_eq] at hb
    exact ⟨o, rfl, e, he, hb.1, hb.2⟩
theorem lastOk_back (h : lastOk ops n = true) {i : Nat} (hi : i ≤ n) {o : Oper} (ho : ops[i]? = some o) : (∀ e ∈ o.after, e.on < i) ∧ (∀ g b, o.guard = some (g, b) → g < n) := by
  unfold lastOk at h
  rw [Bool.and_eq_true] at h
  have h1 := List.all_eq_true.1 h.2 i (List.mem_range.2 (by omega))
  rw [ho] at h1
  simp only [Option.map_some, Option.getD_some, Bool.and_eq_true] at h1
  refine ⟨fun e he => ?_, fun g b hg => ?_⟩
  · have := Array.all_eq_true'.1 h1.1 e he
    simpa using this
  · have h2 := h1.2
    rw [hg] at h2
    simpa using h2
theorem pop_get (hn : ops.size = n + 1) {i : Nat} (hi : i < n) : ops.pop[i]? = ops[i]? := by
  rw [Array.getElem?_pop]
  rw [if_pos (by omega)]

theorem ready_all (h : lastOk ops n = true) (hn : ops.size = n + 1) {listed : Array Bool} (hs : listed.size = n) (hr : Region.ready .any ops.pop listed = []) : ∀ i, i < n → listed.getD i true = true := by
  intro i
  induction i using Nat.strongRecOn with
  | _ i ih =>
    intro hi
    cases hl : listed.getD i true with
    | true => rfl
    | false =>
      have hm : i ∈ Region.ready .any ops.pop listed := mem_ready.2 ⟨hl, ops[i]'(by omega), by rw [pop_get hn hi]; simp [Array.getElem?_eq_getElem (show i < ops.size by omega)], fun e he hb => by
        have hlt := (lastOk_back h (Nat.le_of_lt hi) (Array.getElem?_eq_getElem (show i < ops.size by omega))).1 e he
        have := ih e.on hlt (by omega)
        simpa [Array.getElem?_eq_getElem (show e.on < listed.size by omega)] using this⟩
      rw [hr] at hm
      cases hm

theorem push_getD (listed : Array Bool) (i : Nat) : (listed.push false).getD i false = listed.getD i false := by
  simp only [Array.getD_eq_getD_getElem?, Array.getElem?_push]
  split
  · rename_i h
    subst h
    simp
  · rfl
theorem push_getD_lt {listed : Array Bool} {i : Nat} (hi : i < listed.size) : (listed.push false).getD i true = listed.getD i true := by
  simp only [Array.getD_eq_getD_getElem?, Array.getElem?_push]
  rw [if_neg (by omega)]
theorem push_getD_at (listed : Array Bool) : (listed.push false).getD listed.size true = false := by
  simp only [Array.getD_eq_getD_getElem?, Array.getElem?_push]
  simp

/-- One of the others, ready among all, is ready without the last one; and back. -/
theorem ready_pop (hn : ops.size = n + 1) {listed : Array Bool} (hs : listed.size = n) {i : Nat} (hi : i < n) : i ∈ Region.ready .any ops (listed.push false) ↔ i ∈ Region.ready .any ops.pop listed := by
  rw [mem_ready, mem_ready, pop_get hn hi, push_getD_lt (by omega)]
  simp only [push_getD]
theorem ready_lt {listed : Array Bool} {i : Nat} (hn : ops.size = n + 1) (h : i ∈ Region.ready .any ops listed) : i ≤ n := by
  obtain ⟨_, o, ho, _⟩ := mem_ready.1 h
  have := (Array.getElem?_eq_some_iff.1 ho).1
  omega

theorem wpOp_pop (h : lastOk ops n = true) (hn : ops.size = n + 1) {i : Nat} (hi : i < n) {K K' : Act → World → Prop} (hK : ∀ a w, K a w → K' a w) {a : Act} {w : World}
    (hw : wpOp P ops.pop (LastQ P ops n Q) i K a w) : wpOp P ops Q i K' a w := by
  refine wpOp_mono hK ?_
  unfold wpOp at hw ⊢
  rw [pop_get hn hi] at hw
  cases ho : ops[i]? with
  | none => rw [ho] at hw; exact hw
  | some o =>
    rw [ho] at hw
    have hwant : Region.wanted o (yielded ops.pop a.tmps) = Region.wanted o (yielded ops a.tmps) := by
      unfold Region.wanted
      cases hg : o.guard with
      | none => rfl
      | some gb =>
        obtain ⟨g, b⟩ := gb
        have := (lastOk_back h (Nat.le_of_lt hi) ho).2 g b hg
        show (yielded ops.pop a.tmps g == some b) = (yielded ops a.tmps g == some b)
        unfold yielded
        rw [pop_get hn this]
    simp only [hwant] at hw
    simp only []
    split
    · rename_i hwt
      rw [if_pos hwt] at hw
      rcases hw with hw | ⟨h1, h2⟩
      · refine .inl ?_
        unfold Oper.wp at *
        generalize (execOp a.eval o).run P w = r at *
        cases r with
        | ok x w' => cases x <;> exact hw
        | halt x w' => cases x <;> exact hw
      · exact .inr ⟨h1, h2⟩
    · rename_i hwt
      rw [if_neg hwt] at hw
      exact hw

theorem set_push (listed : Array Bool) {i : Nat} (hi : i < listed.size) : (listed.setIfInBounds i true).push false = (listed.push false).setIfInBounds i true := by
  apply Array.ext_getElem?
  intro k
  simp only [Array.getElem?_push, Array.getElem?_setIfInBounds, Array.size_setIfInBounds, Array.size_push]
  by_cases hk : k = listed.size
  · subst hk
    rw [if_pos rfl, if_neg (by omega), if_pos rfl]
  · rw [if_neg hk, if_neg hk]
    by_cases hik : i = k
    · subst hik
      rw [if_pos rfl, if_pos rfl, if_pos hi, if_pos (by omega)]
    · rw [if_neg hik, if_neg hik]

theorem wpAny_pop (h : lastOk ops n = true) (hn : ops.size = n + 1) : ∀ (fuel : Nat) (listed : Array Bool) (a : Act) (w : World), listed.size = n →
    wpAny P .any ops.pop (LastQ P ops n Q) fuel listed a w → wpAny P .any ops Q (fuel + 1) (listed.push false) a w := by
  have hend : ∀ (fuel : Nat) (listed : Array Bool) (a : Act) (w : World), listed.size = n → Region.ready .any ops.pop listed = [] → LastQ P ops n Q .normal a w → wpAny P .any ops Q (fuel + 1) (listed.push false) a w := by
    intro fuel listed a w hs hr hq
    have hall := ready_all h hn hs hr
    have hmem : n ∈ Region.ready .any ops (listed.push false) := mem_ready.2 ⟨by rw [← hs]; exact push_getD_at listed, ops[n]'(by omega), Array.getElem?_eq_getElem (by omega), fun e he hb => by
      have hlt := (lastOk_back h (Nat.le_refl n) (Array.getElem?_eq_getElem (show n < ops.size by omega))).1 e he
      rw [push_getD]
      have := hall e.on hlt
      simpa [Array.getElem?_eq_getElem (show e.on < listed.size by omega)] using this⟩
    refine ⟨fun h0 => (by rw [h0] at hmem; exact absurd hmem List.not_mem_nil), fun i hi => ?_⟩
    have hin : i = n := by
      have := ready_lt hn hi
      by_cases hlt : i < n
      · have := (ready_pop hn hs hlt).1 hi
        rw [hr] at this
        cases this
      · omega
    subst hin
    have hq : wpOp P ops Q i (Q .normal) a w := hq
    refine wpOp_mono (fun a' w' hQ => ?_) hq
    refine wpAny_done ?_ hQ _
    rw [List.eq_nil_iff_forall_not_mem]
    intro j hj
    have hjn := ready_lt hn hj
    have h0 := (mem_ready.1 hj).1
    by_cases hji : j = i
    · subst hji
      simp [hs] at h0
    · rw [getD_set_ne true (Ne.symm hji), push_getD_lt (by omega), hall j (by omega)] at h0
      cases h0
  intro fuel
  induction fuel with
  | zero => intro listed a w hs hw; exact hend 0 listed a w hs hw.1 hw.2
  | succ fuel ih =>
    intro listed a w hs hw
    by_cases hr : Region.ready .any ops.pop listed = []
    · exact hend (fuel + 1) listed a w hs hr (hw.1 hr)
    · obtain ⟨j, hj⟩ := List.exists_mem_of_ne_nil _ hr
      have hjn : j < n := by
        obtain ⟨_, o, ho, _⟩ := mem_ready.1 hj
        have := (Array.getElem?_eq_some_iff.1 ho).1
        simp at this
        omega
      have hju := (mem_ready.1 hj).1
      refine ⟨fun h0 => ?_, fun i hi => ?_⟩
      · have := (ready_pop hn hs hjn).2 hj
        rw [h0] at this
        cases this
      · have hin := ready_lt hn hi
        have hlt : i < n := by
          rcases Nat.lt_or_ge i n with h' | h'
          · exact h'
          · exfalso
            have : i = n := by omega
            subst this
            obtain ⟨o, ho, e, he, hb, hon⟩ := lastOk_waits h hjn
            obtain ⟨_, o', ho', hall⟩ := mem_ready.1 hi
            rw [ho] at ho'
            injection ho' with ho'
            subst ho'
            have h1 := hall e he hb
            rw [push_getD, hon] at h1
            simp [Array.getElem?_eq_getElem (show j < listed.size by omega)] at h1 hju
            rw [h1] at hju
            cases hju
        refine wpOp_pop h hn hlt (fun a' w' h' => ?_) (hw.2 i ((ready_pop hn hs hlt).1 hi))
        have := ih (listed.setIfInBounds i true) a' w' (by simpa using hs) h'
        have e : (listed.setIfInBounds i true).push false = (listed.push false).setIfInBounds i true := by
          exact set_push listed (by omega)
        rwa [e] at this

theorem rep_push (n : Nat) : (Array.replicate n false).push false = Array.replicate (n + 1) false := by
  simp [Array.replicate_succ]

theorem wpAny_last {a : Act} {w : World} (h : lastOk ops n = true) (hn : ops.size = n + 1) (hw : wpAny P .any ops.pop (LastQ P ops n Q) n (Array.replicate n false) a w) :
    wpAny P .any ops Q (n + 1) (Array.replicate (n + 1) false) a w := by
  rw [← rep_push]
  exact wpAny_pop h hn n _ a w (by simp) hw
/-- The beginning. -/
theorem wp_region_last {id : Nat} {a : Act} {w : World} (hm : P.follows .mixedOrders = true) (hn : ops.size = n + 1) (h : lastOk ops n = true)
    (hw : wpAny P .any ops.pop (LastQ P ops n Q) n (Array.replicate n false) a w.drew) : (Code.region id ops true).wp P Q a w :=
  wp_region_any hm (by rw [hn]; exact wpAny_last h hn hw)
end

end Go.Proofs.YtihhgnbgejjijaaGreatDoor.Va

/- keeper.Handle: the walk. -/
namespace Go.Proofs.YtihhgnbgejjijaaGreatDoor.Va
set_option linter.unusedVariables false
set_option linter.unusedSimpArgs false
open Go Go.RowKit

/-- All blocks but the row's are as they were. -/
def SH (W : World) (u : Option Nat) (w' : World) : Prop := KeepsOn (fun b => some b ≠ u) W w'
theorem SH.cell {W w' : World} {u : Option Nat} (h : SH W u w') {b o : Nat} {v : Value} (hb : some b ≠ u) (x : W.cell? ⟨b, o, none⟩ = some v) : w'.cell? ⟨b, o, none⟩ = some v := KeepsOn.cell h hb x
theorem SH.range {W w' : World} {u : Option Nat} (h : SH W u w') {b o : Nat} {cs : List Value} (hb : some b ≠ u) (x : W.rangeAt b o cs) : w'.rangeAt b o cs := fun j v hv => h.cell hb (x j v hv)

set_option maxRecDepth 100000 in
set_option maxHeartbeats 2000000 in
/-- (keeper).Handle. -/
theorem handle_any {P : Nat → Prop} (min lvl : Int) (ctx : Value) (c : Nat) (u : Value) (l : List GEv) (f bk : SAttrs) (rc : Nat → Value) (A : Option Addr) (lb cb : Nat) (msg : ByteArray) (w : World) (h : EvR c u l w) (hn : l.length < 300000)
    (hm : rc 4 = .string msg) (hl : rc 5 = .int .i64 lvl) (hf : FrP P w f rc 7) (hfl : f.len ≤ 5) (hb : RSS P w bk A lb) (hsz : vSizeAll (SAttrs.append f bk) ≤ 700000) (hk : f.len + bk.len ≤ 299999) :
    Calls Tryz.prog 246 #[.agg #[.int .i64 min, .bool false, .pointer (some ⟨c, 0, none⟩)], ctx, vRec rc f.len (.slice A lb cb)] w
      (EvPost c u (l ++ [⟨3, lvl, false, ByteArray.empty, msg, attrsTold (SAttrs.append f bk)⟩]) .nilIface w) := by
  obtain ⟨i0, hi, hz0, hz1, hz2⟩ := info_parts infoEvent
  have hcl := h.lt
  have hug := h.own
  obtain ⟨xs, hU, hx⟩ := h
  obtain ⟨Q, hQ⟩ : ∃ Q : Ending → World → Prop, Q = EvPost c u (l ++ [⟨3, lvl, false, ByteArray.empty, msg, attrsTold (SAttrs.append f bk)⟩]) .nilIface w := ⟨_, rfl⟩
  rw [← hQ]
  have HQ := Lib.hid hQ
  have HX := Lib.hid hx
  have HM := Lib.hid (And.intro hm hl)
  have hnu : ∀ b, w.heap.size ≤ b → some b ≠ u.ownBlock := fun b hb e => by have := hug b e.symm; omega
  have hcu : some c ≠ u.ownBlock := fun e => by have := hug c e.symm; omega
  have HCA := Lib.hid (fun wx (hk2 : KeepsOn P w wx) => attrsIn_any (P := P) f bk rc A lb cb wx (FrP.turn hk2 (fun _ h _ => h) f rc 7 hf) hfl (hb.turn hk2 (fun _ h _ => h)) hsz hk)
  have B0 : Below w.heap.size w ((w.alloc (.cells #[.int .i64 min, .bool false, .pointer (some ⟨c, 0, none⟩)] 95)).alloc (.cells #[rc 0, rc 1, rc 2, rc 3, rc 4, rc 5, rc 6, rc 7, rc 8, rc 9, rc 10, rc 11, rc 12, rc 13, rc 14, rc 15, rc 16, rc 17, rc 18, rc 19, rc 20, rc 21, .int .i64 f.len, .slice A lb cb] 115)).drew := (by repeat' (first | with_reducible assumption | with_reducible exact Below.refl _ _ | with_reducible refine Below.setCell ?_ ?_ _ | with_reducible refine Below.alloc ?_ ?_ _ | with_reducible refine Below.drew ?_ | with_reducible refine below_drewN ?_ _ | omega | (simp; done) | (simp; omega)))
  have k2 : ((w.alloc (.cells #[.int .i64 min, .bool false, .pointer (some ⟨c, 0, none⟩)] 95)).alloc (.cells #[rc 0, rc 1, rc 2, rc 3, rc 4, rc 5, rc 6, rc 7, rc 8, rc 9, rc 10, rc 11, rc 12, rc 13, rc 14, rc 15, rc 16, rc 17, rc 18, rc 19, rc 20, rc 21, .int .i64 f.len, .slice A lb cb] 115)).drew.cell? ⟨w.heap.size, 2, none⟩ = some (.pointer (some ⟨c, 0, none⟩)) := (keeps_of_below (show Below (w.alloc (.cells #[.int .i64 min, .bool false, .pointer (some ⟨c, 0, none⟩)] 95)).heap.size _ _ from ((Below.refl _ _).alloc (Nat.le_refl _) _).drew)).cell (cell_new w _ _ _ 2 _ rfl rfl)
  have k1 : ((w.alloc (.cells #[.int .i64 min, .bool false, .pointer (some ⟨c, 0, none⟩)] 95)).alloc (.cells #[rc 0, rc 1, rc 2, rc 3, rc 4, rc 5, rc 6, rc 7, rc 8, rc 9, rc 10, rc 11, rc 12, rc 13, rc 14, rc 15, rc 16, rc 17, rc 18, rc 19, rc 20, rc 21, .int .i64 f.len, .slice A lb cb] 115)).drew.cell? ⟨w.heap.size, 1, none⟩ = some (.bool false) := (keeps_of_below (show Below (w.alloc (.cells #[.int .i64 min, .bool false, .pointer (some ⟨c, 0, none⟩)] 95)).heap.size _ _ from ((Below.refl _ _).alloc (Nat.le_refl _) _).drew)).cell (cell_new w _ _ _ 1 _ rfl rfl)
  have kR : ((w.alloc (.cells #[.int .i64 min, .bool false, .pointer (some ⟨c, 0, none⟩)] 95)).alloc (.cells #[rc 0, rc 1, rc 2, rc 3, rc 4, rc 5, rc 6, rc 7, rc 8, rc 9, rc 10, rc 11, rc 12, rc 13, rc 14, rc 15, rc 16, rc 17, rc 18, rc 19, rc 20, rc 21, .int .i64 f.len, .slice A lb cb] 115)).drew.rangeAt (w.heap.size + 1) 0 [rc 0, rc 1, rc 2, rc 3, rc 4, rc 5, rc 6, rc 7, rc 8, rc 9, rc 10, rc 11, rc 12, rc 13, rc 14, rc 15, rc 16, rc 17, rc 18, rc 19, rc 20, rc 21, .int .i64 f.len, .slice A lb cb] := by
    have := range_new (w.alloc (.cells #[.int .i64 min, .bool false, .pointer (some ⟨c, 0, none⟩)] 95)) [rc 0, rc 1, rc 2, rc 3, rc 4, rc 5, rc 6, rc 7, rc 8, rc 9, rc 10, rc 11, rc 12, rc 13, rc 14, rc 15, rc 16, rc 17, rc 18, rc 19, rc 20, rc 21, .int .i64 f.len, .slice A lb cb] 115
    rw [show (w.alloc (.cells #[.int .i64 min, .bool false, .pointer (some ⟨c, 0, none⟩)] 95)).heap.size = w.heap.size + 1 by simp] at this
    exact fun j v hv => this j v hv
  have s0 : w.heap.size + 1 < ((w.alloc (.cells #[.int .i64 min, .bool false, .pointer (some ⟨c, 0, none⟩)] 95)).alloc (.cells #[rc 0, rc 1, rc 2, rc 3, rc 4, rc 5, rc 6, rc 7, rc 8, rc 9, rc 10, rc 11, rc 12, rc 13, rc 14, rc 15, rc 16, rc 17, rc 18, rc 19, rc 20, rc 21, .int .i64 f.len, .slice A lb cb] 115)).drew.heap.size := by simp [World.drew]
  clear hQ hx hm hl hf hfl hb hsz hk
  unfold vRec
  go_enter Tryz.func246, Tryz.ntmps246
  go_wp2_with fail
  refine wp_region_last (n := 16) (by kernel_rfl) rfl (by kernel_rfl) ?_
  simp only [List.pop_toArray, List.dropLast]
  refine wpAny_last (n := 15) (by kernel_rfl) rfl ?_
  simp only [List.pop_toArray, List.dropLast]
  generalize ((w.alloc (.cells #[.int .i64 min, .bool false, .pointer (some ⟨c, 0, none⟩)] 95)).alloc (.cells #[rc 0, rc 1, rc 2, rc 3, rc 4, rc 5, rc 6, rc 7, rc 8, rc 9, rc 10, rc 11, rc 12, rc 13, rc 14, rc 15, rc 16, rc 17, rc 18, rc 19, rc 20, rc 21, .int .i64 f.len, .slice A lb cb] 115)).drew = W1 at B0 k1 k2 kR s0 ⊢
  have kc : W1.cell? ⟨c, 0, none⟩ = some u := (keeps_of_below B0).cell hU.1
  have kf : W1.frozen? ⟨c, 0, none⟩ = false := (B0.frozen (p := ⟨c, 0, none⟩) hcl).trans hU.2.1
  have k4 := kR 4 _ rfl
  have k5 := kR 5 _ rfl
  have HO := Lib.hid (own_below hU.2.2 B0)
  have KR := Lib.hid kR
  have HB0 := Lib.hid B0
  clear kR hU B0
  refine wpAny_of_held (S := SH W1 u.ownBlock) _ _ _ _ ?_
  have hH : SH W1 u.ownBlock W1 := KeepsOn.refl _ _
  refine wpAnyH_take (i := 0) (oi := ({ dst := some 7, op := Op.fieldAddr 95 (Operand.tmp 3) 2, type := 0, pos := "records.go:118", after := #[], guard := none } : Oper)) (v := .pointer (some ⟨w.heap.size, 2, none⟩)) rfl (by kernel_rfl) (by kernel_rfl) (by kernel_rfl) (fun _ _ _ h => h) (Or.inl ⟨by rfl, fun w' hS => by clear k1 k2 kc kf k4 k5; go_simp⟩) hH ?_
  simp only [Act.put, List.setIfInBounds_toArray, List.set_cons_zero, List.set_cons_succ]
  refine wpAnyH_take (i := 1) (oi := ({ dst := some 8, op := Op.load 93 (Operand.tmp 7), type := 93, pos := "records.go:118", after := #[{ on := 0, ground := Ground.data }], guard := none } : Oper)) (v := .pointer (some ⟨c, 0, none⟩)) rfl (by kernel_rfl) (by kernel_rfl) (by kernel_rfl) (fun _ _ _ h => h) (Or.inl ⟨by rfl, fun w' hS => by have k := hS.cell (hnu _ (Nat.le_refl _)) k2; clear k1 k2 kc kf k4 k5; go_simp⟩) hH ?_
  simp only [Act.put, List.setIfInBounds_toArray, List.set_cons_zero, List.set_cons_succ]
  refine wpAnyH_take (i := 2) (oi := ({ dst := some 9, op := Op.fieldAddr 95 (Operand.tmp 3) 2, type := 0, pos := "records.go:118", after := #[], guard := none } : Oper)) (v := .pointer (some ⟨w.heap.size, 2, none⟩)) rfl (by kernel_rfl) (by kernel_rfl) (by kernel_rfl) (fun _ _ _ h => h) (Or.inl ⟨by rfl, fun w' hS => by clear k1 k2 kc kf k4 k5; go_simp⟩) hH ?_
  simp only [Act.put, List.setIfInBounds_toArray, List.set_cons_zero, List.set_cons_succ]
  refine wpAnyH_take (i := 3) (oi := ({ dst := some 10, op := Op.load 93 (Operand.tmp 9), type := 93, pos := "records.go:118", after := #[{ on := 2, ground := Ground.data }], guard := none } : Oper)) (v := .pointer (some ⟨c, 0, none⟩)) rfl (by kernel_rfl) (by kernel_rfl) (by kernel_rfl) (fun _ _ _ h => h) (Or.inl ⟨by rfl, fun w' hS => by have k := hS.cell (hnu _ (Nat.le_refl _)) k2; clear k1 k2 kc kf k4 k5; go_simp⟩) hH ?_
  simp only [Act.put, List.setIfInBounds_toArray, List.set_cons_zero, List.set_cons_succ]
  refine wpAnyH_take (i := 4) (oi := ({ dst := some 11, op := Op.nilCheck (Operand.tmp 10), type := 0, pos := "records.go:118", after := #[{ on := 3, ground := Ground.data }], guard := none } : Oper)) (v := .pointer (some ⟨c, 0, none⟩)) rfl (by kernel_rfl) (by kernel_rfl) (by kernel_rfl) (fun _ _ _ h => h) (Or.inl ⟨by rfl, fun w' hS => by clear k1 k2 kc kf k4 k5; go_simp⟩) hH ?_
  simp only [Act.put, List.setIfInBounds_toArray, List.set_cons_zero, List.set_cons_succ]
  refine wpAnyH_take (i := 5) (oi := ({ dst := some 12, op := Op.load 63 (Operand.tmp 11), type := 63, pos := "records.go:118", after := #[{ on := 4, ground := Ground.data }], guard := none } : Oper)) (v := u) rfl (by kernel_rfl) (by kernel_rfl) (by kernel_rfl) (fun _ _ _ h => h) (Or.inl ⟨by rfl, fun w' hS => by have k := hS.cell hcu kc; clear k1 k2 kc kf k4 k5; go_simp⟩) hH ?_
  simp only [Act.put, List.setIfInBounds_toArray, List.set_cons_zero, List.set_cons_succ]
  refine wpAnyH_take (i := 6) (oi := ({ dst := some 13, op := Op.fieldAddr 115 (Operand.tmp 5) 2, type := 0, pos := "records.go:118", after := #[], guard := none } : Oper)) (v := .pointer (some ⟨w.heap.size + 1, 5, none⟩)) rfl (by kernel_rfl) (by kernel_rfl) (by kernel_rfl) (fun _ _ _ h => h) (Or.inl ⟨by rfl, fun w' hS => by clear k1 k2 kc kf k4 k5; go_simp⟩) hH ?_
  simp only [Act.put, List.setIfInBounds_toArray, List.set_cons_zero, List.set_cons_succ]
  refine wpAnyH_take (i := 7) (oi := ({ dst := some 14, op := Op.load 97 (Operand.tmp 13), type := 97, pos := "records.go:118", after := #[{ on := 6, ground := Ground.data }], guard := none } : Oper)) (v := rc 5) rfl (by kernel_rfl) (by kernel_rfl) (by kernel_rfl) (fun _ _ _ h => h) (Or.inl ⟨by rfl, fun w' hS => by have k := hS.cell (hnu _ (Nat.le_succ _)) k5; clear k1 k2 kc kf k4 k5; go_simp⟩) hH ?_
  simp only [Act.put, List.setIfInBounds_toArray, List.set_cons_zero, List.set_cons_succ]
  refine wpAnyH_take (i := 8) (oi := ({ dst := some 15, op := Op.fieldAddr 115 (Operand.tmp 5) 1, type := 0, pos := "records.go:118", after := #[], guard := none } : Oper)) (v := .pointer (some ⟨w.heap.size + 1, 4, none⟩)) rfl (by kernel_rfl) (by kernel_rfl) (by kernel_rfl) (fun _ _ _ h => h) (Or.inl ⟨by rfl, fun w' hS => by clear k1 k2 kc kf k4 k5; go_simp⟩) hH ?_
  simp only [Act.put, List.setIfInBounds_toArray, List.set_cons_zero, List.set_cons_succ]
  refine wpAnyH_take (i := 9) (oi := ({ dst := some 16, op := Op.load 9 (Operand.tmp 15), type := 9, pos := "records.go:118", after := #[{ on := 8, ground := Ground.data }], guard := none } : Oper)) (v := rc 4) rfl (by kernel_rfl) (by kernel_rfl) (by kernel_rfl) (fun _ _ _ h => h) (Or.inl ⟨by rfl, fun w' hS => by have k := hS.cell (hnu _ (Nat.le_succ _)) k4; clear k1 k2 kc kf k4 k5; go_simp⟩) hH ?_
  simp only [Act.put, List.setIfInBounds_toArray, List.set_cons_zero, List.set_cons_succ]
  refine wpAnyH_take (i := 10) (oi := ({ dst := some 17, op := Op.load 115 (Operand.tmp 5), type := 115, pos := "records.go:118", after := #[], guard := none } : Oper)) rfl (by kernel_rfl) (by kernel_rfl) (by kernel_rfl) (fun _ _ _ h => h) (yieldsIf_load_mid (by rfl) 115 (.tmp 5) rfl (w.heap.size + 1) 0 rfl [rc 0, rc 1, rc 2, rc 3, rc 4, rc 5, rc 6, rc 7, rc 8, rc 9, rc 10, rc 11, rc 12, rc 13, rc 14, rc 15, rc 16, rc 17, rc 18, rc 19, rc 20, rc 21, .int .i64 f.len, .slice A lb cb] _ (fun w' hS => SH.range hS (hnu _ (Nat.le_succ _)) KR.out) Tryz.underlying115 rfl (by kernel_rfl)) hH ?_
  simp only [Act.put, List.setIfInBounds_toArray, List.set_cons_zero, List.set_cons_succ]
  unfold vRec ListPost at HCA
  clear hH
  refine wpAnyH_ready (rs := [11]) (by kernel_rfl) (by simp) ?_
  refine AllReadyH.cons (o := ({ dst := some 18, op := Op.call { callee := Callee.value (Operand.func 71), args := #[Operand.tmp 17], argTypes := #[115] }, type := 24, pos := "records.go:118", after := #[{ on := 10, ground := Ground.data }], guard := none } : Oper)) rfl (fun K hK => ?_) AllReadyH.nil
  go_simp
  refine (HCA.out W1 ((keeps_of_below HB0.out).on _)).mono ?_
  rintro e w3 ⟨A3, len3, cap3, rfl, hr3, hb3⟩
  have HR3 := Lib.hid hr3
  have HB3 := Lib.hid hb3
  have hs3 := hb3.size
  clear hr3 HCA
  dsimp only
  refine hK.out _ _ ?_ (fun hHeld => ?_)
  · exact (keeps_of_below HB3.out).on _
  clear hK K hHeld
  try simp only [Act.put, List.setIfInBounds_toArray, List.set_cons_zero, List.set_cons_succ]
  have c1 : w3.cell? ⟨w.heap.size, 1, none⟩ = some (.bool false) := (keeps_of_below HB3.out).cell k1
  have cc : w3.cell? ⟨c, 0, none⟩ = some u := (keeps_of_below HB3.out).cell kc
  have cf : w3.frozen? ⟨c, 0, none⟩ = false := (HB3.out.frozen (p := ⟨c, 0, none⟩) (by show c < _; omega)).trans kf
  clear k1 k2 kc kf k4 k5 hb3
  simp only [HM.out.1, HM.out.2]
  refine wpAnyH_ready (rs := [12]) (by kernel_rfl) (by simp) ?_
  refine AllReadyH.cons (o := ({ dst := some 19, op := Op.build 101 #[(0, Operand.const (Value.int IntKind.i64 3)), (1, Operand.tmp 14), (4, Operand.tmp 16), (5, Operand.tmp 18)], type := 101, pos := "records.go:118", after := #[{ on := 7, ground := Ground.data }, { on := 9, ground := Ground.data }, { on := 11, ground := Ground.data }], guard := none } : Oper)) rfl (fun K hK => ?_) AllReadyH.nil
  go_simp
  refine hK.out _ _ ?_ (fun hHeld => ?_)
  · exact (keeps_of_below HB3.out).on _
  clear hK K hHeld
  try simp only [Act.put, List.setIfInBounds_toArray, List.set_cons_zero, List.set_cons_succ]
  refine wpAnyH_ready (rs := [13]) (by kernel_rfl) (by simp) ?_
  refine AllReadyH.cons (o := ({ dst := some 20, op := Op.buildSlice 63 1 #[(0, Operand.tmp 19)], type := 63, pos := "records.go:118", after := #[{ on := 12, ground := Ground.data }], guard := none } : Oper)) rfl (fun K hK => ?_) AllReadyH.nil
  go_simp
  refine hK.out _ _ ?_ (fun hHeld => ?_)
  · exact ((keeps_of_below HB3.out).on _).trans ((KeepsOn.refl _ _).alloc _)
  clear hK K hHeld
  try simp only [Act.put, List.setIfInBounds_toArray, List.set_cons_zero, List.set_cons_succ]
  have hcs : c < w3.heap.size := by omega
  have hws : w.heap.size < w3.heap.size := by omega
  refine wpAnyH_ready (rs := [14]) (by kernel_rfl) (by simp) ?_
  refine AllReadyH.cons (o := ({ dst := some 21, op := Op.call { callee := Callee.builtin Builtin.append, args := #[Operand.tmp 12, Operand.tmp 20], argTypes := #[63, 63] }, type := 63, pos := "records.go:118", after := #[{ on := 5, ground := Ground.data }, { on := 13, ground := Ground.data }, { on := 11, ground := Ground.chain }], guard := none } : Oper)) rfl (fun K hK => ?_) AllReadyH.nil
  refine step_append_lies _ rfl (.tmp 12) (.tmp 20) 63 rfl (c + 1) 101 i0 _ 6 80 Tryz.underlying63 hi hz0 hz1 hz2 rfl (by decide) _ l.length xs rfl ((own_below HO.out HB3.out).alloc _) ⟨_, 0, none⟩ 1 1 [.int .i64 3, .int .i64 lvl, .bool false, .string ⟨#[]⟩, .string msg, .slice A3 len3 cap3] rfl rfl (by intro j u hj; exact cells_new _ _ _ _ (by simp) j u hj) (by intro u hu; simp at hu; rcases hu with rfl | rfl | rfl | rfl | rfl | rfl; all_goals rfl) (by decide) (by unfold maxLen; omega) (by omega) (by simp; omega) _ rfl ?_
  intro g cap4 w4 hown4 hgrow4 hat4 hlt4
  have d1 : w4.cell? ⟨w.heap.size, 1, none⟩ = some (.bool false) := (World.cell?_of_block (a := ⟨w.heap.size, 1, none⟩) (hgrow4.block w.heap.size (by simp; omega) (hnu _ (Nat.le_refl _)))).trans (by simp [go_sem, c1, hws])
  have dc : w4.cell? ⟨c, 0, none⟩ = some u := (World.cell?_of_block (a := ⟨c, 0, none⟩) (hgrow4.block c (by simp; omega) hcu)).trans (by simp [go_sem, cc, hcs])
  have df : w4.frozen? ⟨c, 0, none⟩ = false := (World.frozen?_of_block (a := ⟨c, 0, none⟩) (hgrow4.block c (by simp; omega) hcu)).trans (by simp [go_sem, cf, hcs])
  have HO4 := Lib.hid hown4
  have HG4 := Lib.hid hgrow4
  have HA4 := Lib.hid hat4
  clear hown4 hgrow4 hat4 hlt4 cc cf c1
  refine hK.out _ _ ?_ (fun hHeld => ?_)
  · exact (((keeps_of_below HB3.out).on _).trans ((KeepsOn.refl _ _).alloc _)).trans (keepsOn_of_grown HG4.out (fun b hb => hb))
  clear hK K hHeld
  try simp only [Act.put, List.setIfInBounds_toArray, List.set_cons_zero, List.set_cons_succ]
  refine wpAnyH_done (by kernel_rfl) ?_ _
  try unfold LastQ
  refine wpOp_step (o := ({ dst := some 22, op := Op.nilCheck (Operand.tmp 8), type := 0, pos := "records.go:118", after := #[{ on := 1, ground := Ground.data }, { on := 0, ground := Ground.phase }, { on := 1, ground := Ground.phase }, { on := 2, ground := Ground.phase }, { on := 3, ground := Ground.phase }, { on := 4, ground := Ground.phase }, { on := 5, ground := Ground.phase }, { on := 6, ground := Ground.phase }, { on := 7, ground := Ground.phase }, { on := 8, ground := Ground.phase }, { on := 9, ground := Ground.phase }, { on := 10, ground := Ground.phase }, { on := 11, ground := Ground.phase }, { on := 12, ground := Ground.phase }, { on := 13, ground := Ground.phase }, { on := 14, ground := Ground.phase }], guard := none } : Oper)) rfl (fun K hK => ?_)
  go_simp
  refine hK _ _ ?_
  clear hK K
  try try simp only [Act.put, List.setIfInBounds_toArray, List.set_cons_zero, List.set_cons_succ]
  try unfold LastQ
  refine wpOp_step (o := ({ dst := none, op := Op.store 63 (Operand.tmp 22) (Operand.tmp 21), type := 0, pos := "records.go:118", after := #[{ on := 15, ground := Ground.data }, { on := 14, ground := Ground.data }, { on := 14, ground := Ground.chain }, { on := 0, ground := Ground.phase }, { on := 1, ground := Ground.phase }, { on := 2, ground := Ground.phase }, { on := 3, ground := Ground.phase }, { on := 4, ground := Ground.phase }, { on := 5, ground := Ground.phase }, { on := 6, ground := Ground.phase }, { on := 7, ground := Ground.phase }, { on := 8, ground := Ground.phase }, { on := 9, ground := Ground.phase }, { on := 10, ground := Ground.phase }, { on := 11, ground := Ground.phase }, { on := 12, ground := Ground.phase }, { on := 13, ground := Ground.phase }, { on := 14, ground := Ground.phase }], guard := none } : Oper)) rfl (fun K hK => ?_)
  go_simp
  refine hK _ _ ?_
  clear hK K
  try try simp only [Act.put, List.setIfInBounds_toArray, List.set_cons_zero, List.set_cons_succ]
  have hcn : ¬ w.heap.size = c := by omega
  have hcn2 : ¬ c = w.heap.size := by omega
  go_wp2
  rw [HQ.out]
  have HG : World.grownBy _ w4 u.ownBlock := HG4.out
  have HA : u.ownBlock = some g ∨ g = _ := HA4.out
  have hT : Two c u.ownBlock w _ := ((((Two.of_below HB0.out).below HB3.out).alloc _).then (Two.of_grown HG)).set 0 (.slice (some ⟨g, 0, none⟩) (l.length + 1) cap4)
  have hN : NewRow u (.slice (some ⟨g, 0, none⟩) (l.length + 1) cap4) w := by
    rcases HA with h | h
    · exact .inl h.symm
    · exact .inr ⟨g, rfl, by simp at h; omega⟩
  have hO := HO4.out
  refine ⟨rfl, _, evr_add (ev := ⟨3, lvl, false, ByteArray.empty, msg, attrsTold (SAttrs.append f bk)⟩) HX.out hT hN ⟨World.cell?_setCell_same _ _ _ dc, by rw [World.frozen?_setCell]; exact df, ownsRow_setCell_below hO (Nat.lt_succ_self _) _⟩ (HR3.out.turn (((KeepsOn.refl _ _).alloc _).trans (keepsOn_of_grown HG (fun b hb => ?_)) |>.setCell (fun b hb => ?_) _) (fun b hb hlt => ⟨?_, fun e => ?_⟩)), hT, hN⟩
  · simp at hb; exact hnu b (by omega)
  · simp at hb ⊢; omega
  · simp at hb; omega
  · have e : some b = some g := e
    injection e with e
    simp at hb
    rcases HA with h | h
    · have := hug g h; omega
    · simp at h; omega

end Go.Proofs.YtihhgnbgejjijaaGreatDoor.Va

/- Logger.log and Log: the walks. -/
namespace Go.Proofs.YtihhgnbgejjijaaGreatDoor.Va
set_option linter.unusedVariables false
set_option linter.unusedSimpArgs false
open Go Go.RowKit

/-- Logger.Enabled, by events. -/
theorem lenabled_ev (lg : Nat) (min lvl : Int) (fails : Bool) (bg : ByteArray) (c : Nat) (u : Value) (l : List GEv) (w : World) (h : EvR c u l w) (hn : l.length < 300000)
    (hl : w.cell? ⟨lg, 0, none⟩ = some (.iface 95 (.agg #[.int .i64 min, .bool fails, .pointer (some ⟨c, 0, none⟩)]))) :
    Calls Tryz.prog 88 #[.pointer (some ⟨lg, 0, none⟩), .iface 9 (.string bg), .int .i64 lvl] w (EvPost c u (l ++ [evAsk min lvl]) (.bool (decide (min ≤ lvl))) w) := by
  obtain ⟨xs, hU, hx⟩ := h
  refine (lenabled_any lg min lvl fails bg c u l.length xs w hU hn hl).mono ?_
  rintro e w' ⟨rfl, v, hv, hT, hN⟩
  exact ⟨rfl, v, evr_add (ev := evAsk min lvl) hx hT hN hv (RSP.nil_ _ _ _), hT, hN⟩

/-- The record that NewRecord made, in a new variable. -/
theorem recu_new (w : World) (lvl : Int) (msg : ByteArray) (pc : Value) (sec nsec off : Int) (zn : ByteArray) (g : Nat) (hg : g = w.heap.size) (t : TypeId) (zs : List Value) (hz : zs.length = 24) :
    RecU g 0 (rcNew sec nsec off zn msg lvl pc) 0 (.slice none 0 0) ((w.alloc (.cells zs.toArray t)).setCells g 0 [.int .i64 sec, .int .i64 nsec, .int .i64 off, .string zn, .string msg, .int .i64 lvl, pc, .string ByteArray.empty, .int .u64 0, .nilIface, .string ByteArray.empty, .int .u64 0, .nilIface, .string ByteArray.empty, .int .u64 0, .nilIface, .string ByteArray.empty, .int .u64 0, .nilIface, .string ByteArray.empty, .int .u64 0, .nilIface, .int .i64 0, .slice none 0 0]) := by
  have ht : (w.alloc (.cells zs.toArray t)).there g 0 24 := there_new w zs t g 24 hg hz.symm
  have hr := World.rangeAt_setCells_same _ g 0 [.int .i64 sec, .int .i64 nsec, .int .i64 off, .string zn, .string msg, .int .i64 lvl, pc, .string ByteArray.empty, .int .u64 0, .nilIface, .string ByteArray.empty, .int .u64 0, .nilIface, .string ByteArray.empty, .int .u64 0, .nilIface, .string ByteArray.empty, .int .u64 0, .nilIface, .string ByteArray.empty, .int .u64 0, .nilIface, .int .i64 0, .slice none 0 0] ht
  refine ⟨fun j hj => ?_, hr 22 _ rfl, hr 23 _ rfl, fun j hj => ?_⟩
  · rcases j with _ | _ | _ | _ | _ | _ | _ | _ | _ | _ | _ | _ | _ | _ | _ | _ | _ | _ | _ | _ | _ | _ | j
    all_goals (first | exact hr _ _ rfl | omega)
  · exact ((World.there_setCells ht g 0 _) j hj).2

theorem RecU.range {rb : Nat} {rc : Nat → Value} {nf : Nat} {u : Value} {w : World} (h : RecU rb 0 rc nf u w) : w.rangeAt rb 0 [rc 0, rc 1, rc 2, rc 3, rc 4, rc 5, rc 6, rc 7, rc 8, rc 9, rc 10, rc 11, rc 12, rc 13, rc 14, rc 15, rc 16, rc 17, rc 18, rc 19, rc 20, rc 21, .int .i64 nf, u] := by
  intro j v hv
  rcases j with _ | _ | _ | _ | _ | _ | _ | _ | _ | _ | _ | _ | _ | _ | _ | _ | _ | _ | _ | _ | _ | _ | _ | _ | j
  all_goals first
    | (injection hv with hv; subst hv; exact h.1 _ (by omega))
    | (injection hv with hv; subst hv; exact h.2.1)
    | (injection hv with hv; subst hv; exact h.2.2.1)
    | (exact absurd hv (by simp))
theorem ap_bd {P : Nat → Prop} {rb : Nat} {w : World} : ∀ b, ((P b ∧ b < w.heap.size) ∨ rb + 1 ≤ b) → b < w.heap.size → P b ∨ rb + 1 ≤ b := fun b h _ => h.imp (fun h => h.1) id

set_option maxRecDepth 100000 in
set_option maxHeartbeats 1000000 in
/-- (*Logger).log, not enabled. -/
theorem log_no (lg : Nat) (ctx : Value) (hctx : ctx = .nilIface ∨ ∃ bg, ctx = .iface 9 (.string bg)) (min lvl : Int) (c : Nat) (u : Value) (l : List GEv) (msg : ByteArray) (args : Value) (w : World) (h : EvR c u l w) (hn : l.length < 299998)
    (hl : w.cell? ⟨lg, 0, none⟩ = some (.iface 95 (.agg #[.int .i64 min, .bool false, .pointer (some ⟨c, 0, none⟩)]))) (hle : ¬ min ≤ lvl) :
    Calls Tryz.prog 108 #[.pointer (some ⟨lg, 0, none⟩), ctx, .int .i64 lvl, .string msg, args] w (EvPost c u (l ++ [evAsk min lvl]) (.tuple #[]) w) := by
  obtain ⟨Q, hQ⟩ : ∃ Q : Ending → World → Prop, Q = EvPost c u (l ++ [evAsk min lvl]) (.tuple #[]) w := ⟨_, rfl⟩
  rw [← hQ]
  have HQ := Lib.hid hQ
  have CE := Lib.hid (fun bg => lenabled_ev lg min lvl false bg c u l w h (by omega) hl)
  unfold EvPost at CE
  rw [decide_eq_false hle] at CE
  clear hQ h hn hl
  rcases hctx with rfl | ⟨bg, rfl⟩
  all_goals
    go_enter Tryz.func108, Tryz.ntmps108
    go_wp2_with (go_at_call 88; (with_reducible refine (CE.out _).mono ?_); rintro e w1 ⟨rfl, v1, hE1, hT1, hN1⟩; have H1 := Lib.hid (And.intro hE1 (And.intro hT1 hN1)); clear hE1 hT1 hN1)
    refine bodyPost_ret (v := .tuple #[]) (by simp [results, Tryz.results108, go_sem]) rfl ?_
    rw [HQ.out]
    exact ⟨rfl, v1, H1.out⟩

set_option maxRecDepth 100000 in
set_option maxHeartbeats 2000000 in
/-- (*Logger).log, enabled. -/
theorem log_yes {P : Nat → Prop} (lg : Nat) (ctx : Value) (hctx : ctx = .nilIface ∨ ∃ bg, ctx = .iface 9 (.string bg)) (min lvl : Int) (c : Nat) (u : Value) (l : List GEv) (al : List GArg) (msg : ByteArray) (w : World) (A : Option Addr) (len cap : Nat)
    (h : EvR c u l w) (hn : l.length < 299998) (hl : w.cell? ⟨lg, 0, none⟩ = some (.iface 95 (.agg #[.int .i64 min, .bool false, .pointer (some ⟨c, 0, none⟩)]))) (hlg : lg ≠ c ∧ some lg ≠ u.ownBlock) (hle : min ≤ lvl) (ha : RAnyS P w al A len) (hlc : len ≤ cap) (hok : argsOk al) (hwf : argsWf al) (hp : pairsOk al)
    (hlen : al.length ≤ 299999) (hsz : vSizeAll (attrsOf none (rcRaw al)).full ≤ 700000) (hPr : ∀ b, P b → b < w.heap.size → b ≠ c ∧ some b ≠ u.ownBlock) :
    Calls Tryz.prog 108 #[.pointer (some ⟨lg, 0, none⟩), ctx, .int .i64 lvl, .string msg, .slice A len cap] w (EvPost c u (l ++ [evAsk min lvl, ⟨3, lvl, false, ByteArray.empty, msg, argsTold al⟩]) (.tuple #[]) w) := by
  obtain ⟨Q, hQ⟩ : ∃ Q : Ending → World → Prop, Q = EvPost c u (l ++ [evAsk min lvl, ⟨3, lvl, false, ByteArray.empty, msg, argsTold al⟩]) (.tuple #[]) w := ⟨_, rfl⟩
  rw [← hQ]
  have HQ := Lib.hid hQ
  have CE := Lib.hid (fun bg => lenabled_ev lg min lvl false bg c u l w h (by omega) hl)
  unfold EvPost at CE
  rw [decide_eq_true hle] at CE
  have hlgl : lg < w.heap.size := World.block_lt_of_cell? w _ hl
  have HPr := Lib.hid hPr
  have HA := Lib.hid ha
  have HS := Lib.hid (And.intro hok (And.intro hwf (And.intro hp (And.intro hlc (And.intro hlen (And.intro hsz hn))))))
  have HLG := Lib.hid (And.intro hl hlg)
  have mh := meth_handle
  clear hQ h hn hl hlg ha hlc hok hwf hp hlen hsz hPr
  rcases hctx with rfl | ⟨bg, rfl⟩
  all_goals
    go_enter Tryz.func108, Tryz.ntmps108
    go_wp2_with (first
      | (go_at_call 88; (with_reducible refine (CE.out _).mono ?_); rintro e w1 ⟨rfl, v1, hE1, hT1, hN1⟩; have H1 := Lib.hid (And.intro hE1 (And.intro hT1 hN1)); have hs1 := hT1.size; clear hE1 hT1 hN1)
      | (go_at_call 158; refine (now_any _).mono ?_; rintro e w2 ⟨rfl, hb2⟩; have HB2 := Lib.hid hb2; have hs2 := hb2.size; clear hb2)
      | (go_at_call 62; refine (newRec_any _ _ _ _ _ _ _ _).mono ?_; rintro e w3 ⟨rfl, hb3⟩; have HB3 := Lib.hid hb3; have hs3 := hb3.size; clear hb3; have HTH := Lib.hid (there_new w3 [.int .i64 0, .int .i64 0, .int .i64 0, .string ⟨#[]⟩, .string ⟨#[]⟩, .int .i64 0, .pointer none, .string ⟨#[]⟩, .int .u64 0, .nilIface, .string ⟨#[]⟩, .int .u64 0, .nilIface, .string ⟨#[]⟩, .int .u64 0, .nilIface, .string ⟨#[]⟩, .int .u64 0, .nilIface, .string ⟨#[]⟩, .int .u64 0, .nilIface, .int .i64 0, .slice none 0 0] 115 w3.heap.size 24 rfl rfl); unfold vRec rcNew)
      | (refine wpList_store_mid rfl 115 (.tmp 11) (.tmp 24) rfl w3.heap.size 0 #[.int .i64 (-62135596800), .int .i64 0, .int .i64 0, .string ByteArray.empty, .string msg, .int .i64 lvl, .pointer none, .string ByteArray.empty, .int .u64 0, .nilIface, .string ByteArray.empty, .int .u64 0, .nilIface, .string ByteArray.empty, .int .u64 0, .nilIface, .string ByteArray.empty, .int .u64 0, .nilIface, .string ByteArray.empty, .int .u64 0, .nilIface, .int .i64 0, .slice none 0 0] rfl rfl HTH.out (by kernel_rfl) (by simp [Value.oneCell']) ?_; have hR5 := recu_new w3 lvl msg (.pointer none) (-62135596800) 0 0 ByteArray.empty w3.heap.size rfl 115 [.int .i64 0, .int .i64 0, .int .i64 0, .string ⟨#[]⟩, .string ⟨#[]⟩, .int .i64 0, .pointer none, .string ⟨#[]⟩, .int .u64 0, .nilIface, .string ⟨#[]⟩, .int .u64 0, .nilIface, .string ⟨#[]⟩, .int .u64 0, .nilIface, .string ⟨#[]⟩, .int .u64 0, .nilIface, .string ⟨#[]⟩, .int .u64 0, .nilIface, .int .i64 0, .slice none 0 0] rfl; have hB5 : Below w3.heap.size w3 ((w3.alloc (.cells [.int .i64 0, .int .i64 0, .int .i64 0, .string ⟨#[]⟩, .string ⟨#[]⟩, .int .i64 0, .pointer none, .string ⟨#[]⟩, .int .u64 0, .nilIface, .string ⟨#[]⟩, .int .u64 0, .nilIface, .string ⟨#[]⟩, .int .u64 0, .nilIface, .string ⟨#[]⟩, .int .u64 0, .nilIface, .string ⟨#[]⟩, .int .u64 0, .nilIface, .int .i64 0, .slice none 0 0].toArray 115)).setCells w3.heap.size 0 [.int .i64 (-62135596800), .int .i64 0, .int .i64 0, .string ByteArray.empty, .string msg, .int .i64 lvl, .pointer none, .string ByteArray.empty, .int .u64 0, .nilIface, .string ByteArray.empty, .int .u64 0, .nilIface, .string ByteArray.empty, .int .u64 0, .nilIface, .string ByteArray.empty, .int .u64 0, .nilIface, .string ByteArray.empty, .int .u64 0, .nilIface, .int .i64 0, .slice none 0 0]) := below_cells (Nat.le_refl _) _ _ _ ((Below.refl _ _).alloc (Nat.le_refl _) _); (try simp only [List.toList_toArray]); generalize (w3.alloc (.cells [.int .i64 0, .int .i64 0, .int .i64 0, .string ⟨#[]⟩, .string ⟨#[]⟩, .int .i64 0, .pointer none, .string ⟨#[]⟩, .int .u64 0, .nilIface, .string ⟨#[]⟩, .int .u64 0, .nilIface, .string ⟨#[]⟩, .int .u64 0, .nilIface, .string ⟨#[]⟩, .int .u64 0, .nilIface, .string ⟨#[]⟩, .int .u64 0, .nilIface, .int .i64 0, .slice none 0 0].toArray 115)).setCells w3.heap.size 0 [.int .i64 (-62135596800), .int .i64 0, .int .i64 0, .string ByteArray.empty, .string msg, .int .i64 lvl, .pointer none, .string ByteArray.empty, .int .u64 0, .nilIface, .string ByteArray.empty, .int .u64 0, .nilIface, .string ByteArray.empty, .int .u64 0, .nilIface, .string ByteArray.empty, .int .u64 0, .nilIface, .string ByteArray.empty, .int .u64 0, .nilIface, .int .i64 0, .slice none 0 0] = w5 at hR5 hB5 ⊢; have HR5 := Lib.hid hR5; have HB5 := Lib.hid hB5; have hs5 := hR5.lt; clear hR5 hB5 HTH)
      | (go_at_call 65; have hA5 := ((HA.out.turn (Q := fun b => P b ∧ b < w.heap.size) (KeepsOn.refl _ _) (fun b h hl => ⟨h, hl⟩)).turn (Q := fun b => (P b ∧ b < w.heap.size) ∨ w3.heap.size + 1 ≤ b) ((H1.out.2.1.keepsOn (fun b hb => (HPr.out b hb.1 hb.2).1) (fun b hb => (HPr.out b hb.1 hb.2).2)).trans (((keeps_of_below HB2.out).trans ((keeps_of_below HB3.out).trans (keeps_of_below HB5.out))).on _)) (fun b h _ => .inl h)); (refine (add_any (P := fun b => (P b ∧ b < w.heap.size) ∨ w3.heap.size + 1 ≤ b) (w3.heap.size + 1) w3.heap.size 0 _ .nil .nil (.slice none 0 0) 0 [] al w5 A len cap HR5.out trivial (Nat.zero_le _) (World.ownsRow_nil _ _ _ _) rfl (fun h => absurd h (by decide)) (fun h => by cases h) hA5 HS.out.2.2.2.1 HS.out.1 HS.out.2.1 HS.out.2.2.1 (by simp only [SAttrs.len]; have := HS.out.2.2.2.2.1; omega) (fun b hb => .inr (by omega)) (fun b hb hl => ⟨by rcases hb with h | h <;> omega, fun h => by cases h⟩) (by omega)).mono ?_); clear hA5; rintro e w6 ⟨rfl, rc', f4, b4, v4, m4, ys4, hR6, hrc6, hf6, hfl6, hown6, hx6, hfb6, hru6, hall6, hT6, hN6⟩; obtain ⟨A4, cap4, rfl, hrs6⟩ := rss_of_owns (Q := fun _ => True) hown6 hx6 (fun _ _ => trivial) (fun _ _ => trivial); have HR6 := Lib.hid hR6; have HRC := Lib.hid hrc6; have HF6 := Lib.hid (And.intro (FrP.turn (Q := fun _ => True) (KeepsOn.refl _ _) (fun _ _ _ => trivial) f4 rc' 7 hf6) (And.intro hfl6 hrs6)); have hB6 : Below w1.heap.size w1 w6 := Two.under ((HB2.out.trans (HB3.out.mono hs2)).trans (HB5.out.mono (by omega))) (Nat.le_refl _) hT6 (by omega) (fun g hg => by simp [Value.ownBlock] at hg); have HB6 := Lib.hid hB6; have hs6 := hB6.size; have HALL := Lib.hid hall6; have hz6 := hT6.size; clear hR6 hrc6 hf6 hfl6 hown6 hx6 hfb6 hru6 hall6 hT6 hN6 hrs6 hB6))
    have hl6 : w6.drew.cell? ⟨lg, 0, none⟩ = some (.iface 95 (.agg #[.int .i64 min, .bool false, .pointer (some ⟨c, 0, none⟩)])) := (keeps_of_below HB6.out).cell ((H1.out.2.1.cell hlgl HLG.out.2.1 HLG.out.2.2).trans HLG.out.1)
    have KR := Lib.hid HR6.out.range
    refine wp_region_held_drew (S := fun w' => KeepsOn (fun b => b = w3.heap.size) w6 w') (by kernel_rfl) ((KeepsOn.refl _ _).drew) (fun hH => ?_)
    refine wpAnyH_take (i := 0) (oi := ({ dst := some 27, op := Op.move (Operand.tmp 0), type := 91, pos := "logger.go:148", after := #[], guard := none } : Oper)) (v := .pointer (some ⟨lg, 0, none⟩)) rfl (by kernel_rfl) (by kernel_rfl) (by kernel_rfl) (fun _ _ _ h => h) (Or.inl ⟨by rfl, fun w' hS => by clear hl6 mh; go_simp⟩) hH ?_
    try simp only [Act.put, List.setIfInBounds_toArray, List.set_cons_zero, List.set_cons_succ]
    refine wpAnyH_take (i := 2) (oi := ({ dst := some 29, op := Op.move (Operand.tmp 1), type := 20, pos := "logger.go:148", after := #[], guard := none } : Oper)) (v := .iface 9 (.string _)) rfl (by kernel_rfl) (by kernel_rfl) (by kernel_rfl) (fun _ _ _ h => h) (Or.inl ⟨by rfl, fun w' hS => rfl⟩) hH ?_
    try simp only [Act.put, List.setIfInBounds_toArray, List.set_cons_zero, List.set_cons_succ]
    refine wpAnyH_take (i := 3) (oi := ({ dst := some 30, op := Op.load 115 (Operand.tmp 11), type := 115, pos := "logger.go:148", after := #[], guard := none } : Oper)) rfl (by kernel_rfl) (by kernel_rfl) (by kernel_rfl) (fun _ _ _ h => h) (yieldsIf_load_mid (by rfl) 115 (.tmp 11) rfl w3.heap.size 0 rfl [rc' 0, rc' 1, rc' 2, rc' 3, rc' 4, rc' 5, rc' 6, rc' 7, rc' 8, rc' 9, rc' 10, rc' 11, rc' 12, rc' 13, rc' 14, rc' 15, rc' 16, rc' 17, rc' 18, rc' 19, rc' 20, rc' 21, .int .i64 f4.len, .slice A4 m4 cap4] _ (fun w' hS => fun j v hv => KeepsOn.cell hS rfl (KR.out j v hv)) Tryz.underlying115 rfl (by kernel_rfl)) hH ?_
    try simp only [Act.put, List.setIfInBounds_toArray, List.set_cons_zero, List.set_cons_succ]
    clear hH
    refine wpAnyH_ready (rs := [1]) (by kernel_rfl) (by simp) ?_
    refine AllReadyH.cons (o := ({ dst := some 28, op := Op.call { callee := Callee.value (Operand.func 121), args := #[Operand.tmp 27], argTypes := #[91] }, type := 135, pos := "logger.go:148", after := #[{ on := 0, ground := Ground.data }], guard := none } : Oper)) rfl (fun K hK => ?_) AllReadyH.nil
    go_simp
    refine (handler_any lg _ _ hl6).mono ?_
    rintro e w7 ⟨rfl, hb7⟩
    have HB7 := Lib.hid hb7
    clear hb7 hl6
    dsimp only
    refine hK.out _ _ ?_ (fun hHeld => ?_)
    · exact ((KeepsOn.refl _ _).drew).trans ((keeps_of_below HB7.out).on _)
    clear hK K hHeld
    try simp only [Act.put, List.setIfInBounds_toArray, List.set_cons_zero, List.set_cons_succ]
    have hB7 : Below w1.heap.size w1 w7 := HB6.out.drew.trans (HB7.out.mono (show w1.heap.size ≤ w6.drew.heap.size from hs6))
    have CH := Lib.hid (fun ctx => handle_any (P := fun _ => True) min lvl ctx c v1 (l ++ [evAsk min lvl]) f4 b4 rc' A4 m4 cap4 msg w7 (H1.out.1.below hB7) (by rw [List.length_append]; have := HS.out.2.2.2.2.2.2; simp; omega) (HRC.out 4 (by omega)) (HRC.out 5 (by omega)) (FrP.turn (((KeepsOn.refl _ _).drew).trans ((keeps_of_below HB7.out).on _)) (fun _ h _ => h) f4 rc' 7 HF6.out.1) HF6.out.2.1 (HF6.out.2.2.turn (((KeepsOn.refl _ _).drew).trans ((keeps_of_below HB7.out).on _)) (fun _ h _ => h)) (by rw [HALL.out]; exact HS.out.2.2.2.2.2.1) (by have h1 := congrArg SAttrs.len HALL.out; have h2 := slen_append f4 b4; have h3 := full_len (attrsOf none (rcRaw al)); have h4 := slen_attrsOf none (rcRaw al); have h5 := (rcRaw_size al).2; have h6 := HS.out.2.2.2.2.1; have h7 : (SAttrs.append (SAttrs.append .nil .nil) (attrsOf none (rcRaw al)).full).len = (attrsOf none (rcRaw al)).full.len := rfl; omega))
    unfold vRec EvPost at CH
    have HB77 := Lib.hid hB7
    clear hB7
    refine wpAnyH_ready (rs := [4]) (by kernel_rfl) (by simp) ?_
    refine AllReadyH.cons (o := ({ dst := some 31, op := Op.call { callee := Callee.invoke (Operand.tmp 28) "Handle", args := #[Operand.tmp 29, Operand.tmp 30], argTypes := #[20, 115] }, type := 139, pos := "logger.go:148", after := #[{ on := 1, ground := Ground.data }, { on := 2, ground := Ground.data }, { on := 3, ground := Ground.data }, { on := 1, ground := Ground.chain }], guard := none } : Oper)) rfl (fun K hK => ?_) AllReadyH.nil
    go_simp
    refine (CH.out _).mono ?_
    rintro e w8 ⟨rfl, v8, hE8, hT8, hN8⟩
    have H8 := Lib.hid (And.intro hE8 (And.intro hT8 hN8))
    clear hE8 hT8 hN8 CH
    dsimp only
    refine hK.out _ _ ?_ (fun hHeld => ?_)
    · exact ((KeepsOn.refl _ _).drew).trans (((keeps_of_below HB7.out).on _).trans (H8.out.2.1.keepsOn (fun b hb => by have := H1.out.1.lt; omega) (fun b hb e => by have := H1.out.1.own b e.symm; omega)))
    clear hK K hHeld
    try simp only [Act.put, List.setIfInBounds_toArray, List.set_cons_zero, List.set_cons_succ]
    refine wpAnyH_done (by kernel_rfl) ?_ _
    go_wp2
    refine bodyPost_end (v := .tuple #[]) (by simp [results, Tryz.results108, go_sem]) rfl ?_
    rw [HQ.out]
    have hE := H8.out.1
    rw [List.append_assoc, show attrsTold (SAttrs.append f4 b4) = argsTold al by rw [HALL.out]; rfl] at hE
    exact ⟨rfl, v8, hE, (H1.out.2.1.below HB77.out).trans H8.out.2.1 H1.out.2.2, H1.out.2.2.trans H8.out.2.2 (by have := HB77.out.size; omega)⟩

set_option maxRecDepth 100000 in
set_option maxHeartbeats 400000 in
/-- (*Logger).Log is log. -/
theorem Log_any (lg ctx lvl msg args : Value) (w : World) (Q : Ending → World → Prop) (h : Calls Tryz.prog 108 #[lg, ctx, lvl, msg, args] w (fun e w' => e = .returned (.tuple #[]) ∧ Q e w')) :
    Calls Tryz.prog 59 #[lg, ctx, lvl, msg, args] w Q := by
  have H := Lib.hid h
  clear h
  go_enter Tryz.func59, Tryz.ntmps59
  go_wp2_with (go_at_call 108; (with_reducible refine H.out.mono ?_); rintro e w1 ⟨rfl, h1⟩; have H1 := Lib.hid h1; clear h1)
  exact bodyPost_end (v := .tuple #[]) (by simp [results, Tryz.results59, go_sem]) rfl H1.out

end Go.Proofs.YtihhgnbgejjijaaGreatDoor.Va
