/- A record of package slog, and its attributes taken one by one (Record.Attrs): the walk. -/
import Derived.Test.YtihhgnbgejjijaaGreatDoorClosA
namespace Go.Proofs.YtihhgnbgejjijaaGreatDoor.Va
set_option linter.unusedVariables false
set_option linter.unusedSimpArgs false
open Go Go.RowKit

/-- A row of attributes among the cells of a record. -/
def FrP (P : Nat → Prop) (w : World) : SAttrs → (Nat → Value) → Nat → Prop
  | .nil, _, _ => True
  | .cons key v r, rc, k => rc k = .string key ∧ RSV P w v (rc (k + 1)) (rc (k + 2)) ∧ FrP P w r rc (k + 3)
theorem FrP.turn {P Q : Nat → Prop} {w w' : World} (hk : KeepsOn P w w') (hq : ∀ b, P b → b < w.heap.size → Q b) : ∀ (l : SAttrs) (rc : Nat → Value) (k : Nat), FrP P w l rc k → FrP Q w' l rc k
  | .nil, _, _, _ => trivial
  | .cons key v r, rc, k, h => ⟨h.1, h.2.1.turn hk hq, FrP.turn hk hq r rc (k + 3) h.2.2⟩
/-- A record's 24 cells: the 22 first by a function, the number of those in front, and those behind. -/
def vRec (rc : Nat → Value) (n : Nat) (bk : Value) : Value :=
  .agg #[rc 0, rc 1, rc 2, rc 3, rc 4, rc 5, rc 6, rc 7, rc 8, rc 9, rc 10, rc 11, rc 12, rc 13, rc 14, rc 15, rc 16, rc 17, rc 18, rc 19, rc 20, rc 21, .int .i64 n, bk]
theorem AccU.alloc {c : Nat} {u : Value} {n : Nat} {xs : List Value} {w : World} (h : AccU c u n xs w) (o : Obj) : AccU c u n xs (w.alloc o) := by
  have hl : c < w.heap.size := World.block_lt_of_cell? w _ h.1
  exact ⟨by simp [go_sem, hl, h.1], by simp [go_sem, hl, h.2.1], h.2.2.alloc o⟩
theorem NewRow.trans {u v x : Value} {a b : World} (h : NewRow u v a) (k : NewRow v x b) (hs : a.heap.size ≤ b.heap.size) : NewRow u x a := by
  rcases k with e | ⟨g, e, hg⟩
  · rcases h with e' | ⟨g, e', hg⟩
    · exact .inl (e.trans e')
    · exact .inr ⟨g, e.trans e', hg⟩
  · exact .inr ⟨g, e, by omega⟩

/-- The rounds. -/
def Rec1 (c : Nat) (u : Value) (w W1 : World) (rc : Nat → Value) (f acc : SAttrs) (x : Value) (wr : World) : Prop :=
  ∃ (k : Nat) (rest acc' : SAttrs) (u' : Value) (n' : Nat) (xs' : List Value), x = .int .i64 k ∧ k + rest.len = f.len ∧ AccU c u' n' xs' wr ∧ RSX (fun b => b < c) wr acc' xs' ∧ SAttrs.append acc f = SAttrs.append acc' rest ∧
    FrP (fun b => b < c) w rest rc (7 + k * 3) ∧ acc'.len + rest.len = acc.len + f.len ∧ Two c u.ownBlock W1 wr ∧ NewRow u u' W1
def Rec2 (c : Nat) (u : Value) (w W1 : World) (b o : Nat) (bk acc : SAttrs) (x : Value) (wr : World) : Prop :=
  ∃ (k : Nat) (rest acc' : SAttrs) (u' : Value) (n' : Nat) (xs' : List Value), x = .int .i64 k ∧ k + rest.len = bk.len ∧ AccU c u' n' xs' wr ∧ RSX (fun b => b < c) wr acc' xs' ∧ SAttrs.append acc bk = SAttrs.append acc' rest ∧
    RSAs (fun b => b < c) w rest b (o + k * 3) ∧ acc'.len + rest.len = acc.len + bk.len ∧ Two c u.ownBlock W1 wr ∧ NewRow u u' W1

/-- What Attrs leaves. -/
def AccEnd (c : Nat) (u : Value) (all : SAttrs) (w : World) (e : Ending) (w' : World) : Prop :=
  e = .returned (.tuple #[]) ∧ ∃ v m ys, AccU c v m ys w' ∧ RSX (fun b => b < c) w' all ys ∧ Two c u.ownBlock w w' ∧ NewRow u v w

theorem NewRow.mono {u v : Value} {a b : World} (h : NewRow u v b) (hs : a.heap.size ≤ b.heap.size) : NewRow u v a := by
  rcases h with e | ⟨g, e, hg⟩
  · exact .inl e
  · exact .inr ⟨g, e, by omega⟩
theorem slen_append : ∀ l m : SAttrs, (SAttrs.append l m).len = l.len + m.len
  | .nil, m => by show m.len = 0 + m.len; omega
  | .cons k v r, m => by show (SAttrs.append r m).len + 1 = (r.len + 1) + m.len; rw [slen_append r m]; omega
/-- The cells of a new record. -/
theorem rec_new (w : World) (rc : Nat → Value) (x y : Value) (t : TypeId) : ∀ j, j < 22 → (w.alloc (.cells #[rc 0, rc 1, rc 2, rc 3, rc 4, rc 5, rc 6, rc 7, rc 8, rc 9, rc 10, rc 11, rc 12, rc 13, rc 14, rc 15, rc 16, rc 17, rc 18, rc 19, rc 20, rc 21, x, y] t)).cell? ⟨w.heap.size, j, none⟩ = some (rc j)
  | 0, _ => cell_new _ _ _ _ 0 _ rfl rfl
  | 1, _ => cell_new _ _ _ _ 1 _ rfl rfl
  | 2, _ => cell_new _ _ _ _ 2 _ rfl rfl
  | 3, _ => cell_new _ _ _ _ 3 _ rfl rfl
  | 4, _ => cell_new _ _ _ _ 4 _ rfl rfl
  | 5, _ => cell_new _ _ _ _ 5 _ rfl rfl
  | 6, _ => cell_new _ _ _ _ 6 _ rfl rfl
  | 7, _ => cell_new _ _ _ _ 7 _ rfl rfl
  | 8, _ => cell_new _ _ _ _ 8 _ rfl rfl
  | 9, _ => cell_new _ _ _ _ 9 _ rfl rfl
  | 10, _ => cell_new _ _ _ _ 10 _ rfl rfl
  | 11, _ => cell_new _ _ _ _ 11 _ rfl rfl
  | 12, _ => cell_new _ _ _ _ 12 _ rfl rfl
  | 13, _ => cell_new _ _ _ _ 13 _ rfl rfl
  | 14, _ => cell_new _ _ _ _ 14 _ rfl rfl
  | 15, _ => cell_new _ _ _ _ 15 _ rfl rfl
  | 16, _ => cell_new _ _ _ _ 16 _ rfl rfl
  | 17, _ => cell_new _ _ _ _ 17 _ rfl rfl
  | 18, _ => cell_new _ _ _ _ 18 _ rfl rfl
  | 19, _ => cell_new _ _ _ _ 19 _ rfl rfl
  | 20, _ => cell_new _ _ _ _ 20 _ rfl rfl
  | 21, _ => cell_new _ _ _ _ 21 _ rfl rfl
  | j + 22, h => absurd h (by omega)

set_option maxRecDepth 100000 in
set_option maxHeartbeats 4000000 in
/-- Record.Attrs, with the function that takes them. -/
theorem recAttrs_any (c : Nat) (u : Value) (n : Nat) (xs : List Value) (acc f bk : SAttrs) (rc : Nat → Value) (A : Option Addr) (lb cb : Nat) (w : World) (hA : AccU c u n xs w) (hx : RSX (fun b => b < c) w acc xs)
    (hf : FrP (fun b => b < c) w f rc 7) (hfl : f.len ≤ 5) (hb : RSS (fun b => b < c) w bk A lb) (hsz : acc.len + f.len + bk.len ≤ 299999) :
    Calls Tryz.prog 72 #[vRec rc f.len (.slice A lb cb), .func (.func 117) #[] #[.pointer (some ⟨c, 0, none⟩)]] w (AccEnd c u (SAttrs.append (SAttrs.append acc f) bk) w) := by
  have hcl : c < w.heap.size := World.block_lt_of_cell? w _ hA.1
  have hul := fun g hg => (hA.2.2.lt g hg).2
  have hug := fun g hg => (hA.2.2.lt g hg).1
  obtain ⟨Q, hQ⟩ : ∃ Q : Ending → World → Prop, Q = AccEnd c u (SAttrs.append (SAttrs.append acc f) bk) w := ⟨_, rfl⟩
  rw [← hQ]
  have HQ := Lib.hid hQ
  have HF := Lib.hid hf
  have HB := Lib.hid hb
  have HU := Lib.hid (And.intro hul hug)
  unfold vRec
  have hW := rec_new w rc (.int .i64 f.len) (.slice A lb cb) 115
  have hW22 : (w.alloc (.cells #[rc 0, rc 1, rc 2, rc 3, rc 4, rc 5, rc 6, rc 7, rc 8, rc 9, rc 10, rc 11, rc 12, rc 13, rc 14, rc 15, rc 16, rc 17, rc 18, rc 19, rc 20, rc 21, .int .i64 f.len, .slice A lb cb] 115)).cell? ⟨w.heap.size, 22, none⟩ = some (.int .i64 f.len) := cell_new _ _ _ _ 22 _ rfl rfl
  have hW23 : (w.alloc (.cells #[rc 0, rc 1, rc 2, rc 3, rc 4, rc 5, rc 6, rc 7, rc 8, rc 9, rc 10, rc 11, rc 12, rc 13, rc 14, rc 15, rc 16, rc 17, rc 18, rc 19, rc 20, rc 21, .int .i64 f.len, .slice A lb cb] 115)).cell? ⟨w.heap.size, 23, none⟩ = some (.slice A lb cb) := cell_new _ _ _ _ 23 _ rfl rfl
  have hB1 : Below w.heap.size w (w.alloc (.cells #[rc 0, rc 1, rc 2, rc 3, rc 4, rc 5, rc 6, rc 7, rc 8, rc 9, rc 10, rc 11, rc 12, rc 13, rc 14, rc 15, rc 16, rc 17, rc 18, rc 19, rc 20, rc 21, .int .i64 f.len, .slice A lb cb] 115)) := (Below.refl _ _).alloc (Nat.le_refl _) _
  have hs1 : (w.alloc (.cells #[rc 0, rc 1, rc 2, rc 3, rc 4, rc 5, rc 6, rc 7, rc 8, rc 9, rc 10, rc 11, rc 12, rc 13, rc 14, rc 15, rc 16, rc 17, rc 18, rc 19, rc 20, rc 21, .int .i64 f.len, .slice A lb cb] 115)).heap.size = w.heap.size + 1 := by simp
  have HA := Lib.hid (hA.alloc (.cells #[rc 0, rc 1, rc 2, rc 3, rc 4, rc 5, rc 6, rc 7, rc 8, rc 9, rc 10, rc 11, rc 12, rc 13, rc 14, rc 15, rc 16, rc 17, rc 18, rc 19, rc 20, rc 21, .int .i64 f.len, .slice A lb cb] 115))
  have HX := Lib.hid (RSX.turn ((keeps_of_below hB1).on _) (fun _ h _ => h) _ _ hx)
  clear hQ hA hx hf hb
  go_enter Tryz.func72, Tryz.ntmps72
  go_wp2
  have HW := Lib.hid (And.intro hW (And.intro hW22 hW23))
  have HB1 := Lib.hid hB1
  clear hW hW22 hW23 hB1
  generalize w.alloc (.cells #[rc 0, rc 1, rc 2, rc 3, rc 4, rc 5, rc 6, rc 7, rc 8, rc 9, rc 10, rc 11, rc 12, rc 13, rc 14, rc 15, rc 16, rc 17, rc 18, rc 19, rc 20, rc 21, .int .i64 f.len, .slice A lb cb] 115) = W1 at HW HB1 hs1 HA HX ⊢
  go_loopw [4] (fun x wr => Rec1 c u w W1 rc f acc x wr) (fun x _ => f.len - (intOf x).toNat)
  case atStart => exact ⟨0, f, acc, u, n, xs, rfl, by omega, HA.out, HX.out, rfl, HF.out, rfl, Two.refl _ _ _, .inl rfl⟩
  case round =>
    obtain ⟨k, rest, acc', u', n', xs', rfl, hk, hA', hx', hval, hfr, hsum, hT', hN'⟩ := hrel
    have hn' : n' = acc'.len := by have h1 := hA'.2.2.1; have h2 := RSX.len _ _ hx'; omega
    have hug' : ∀ g, u'.ownBlock = some g → c + 1 ≤ g := fun g hg => (hA'.2.2.lt g hg).1
    have HA' := Lib.hid hA'
    have HX' := Lib.hid hx'
    have HT' := Lib.hid hT'
    have HN' := Lib.hid hN'
    have hsT := hT'.size
    have hW1c : ∀ j, wr.cell? ⟨w.heap.size, j, none⟩ = W1.cell? ⟨w.heap.size, j, none⟩ := fun j => hT'.cell (by omega) (by omega) (fun e => by have := hul _ e.symm; omega)
    have hKw : KeepsOn (fun b => b < c) w wr := ((keeps_of_below HB1.out).on _).trans (hT'.keepsOn (fun b hb => by omega) (fun b hb e => by have := hug b e.symm; omega))
    cases rest with
    | nil =>
      have hke : ¬ ((k : Int) < (f.len : Int)) := by simp only [SAttrs.len] at hk; omega
      have k22 := (hW1c 22).trans HW.out.2.1
      have k23 := (hW1c 23).trans HW.out.2.2
      have Hval : SAttrs.append acc f = acc' := by rw [hval, sappend_nil]
      have hsum : acc'.len = acc.len + f.len := by simp only [SAttrs.len] at hsum; omega
      clear hA' hx' hT' hN' hW1c hk hfr hval
      have HKw := Lib.hid hKw
      have HHv := Lib.hid Hval
      clear hKw Hval
      have hb0 := HB.out.1
      have Hb0 := Lib.hid hb0
      clear hb0
      go_wp2
      by_cases hz : lb = 0
      · have hbn : bk = .nil := by
          have h := Hb0.out
          cases bk with | nil => rfl | cons => simp only [SAttrs.len] at h; omega
        subst hz hbn
        go_loopw [23] (fun x w2 => x = .int .i64 0 ∧ w2 = wr) (fun _ _ => 0)
        case atStart => exact ⟨rfl, rfl⟩
        case round =>
          obtain ⟨rfl, rfl⟩ := hrel
          go_wp2
          refine bodyPost_ret (v := .tuple #[]) (by simp [results, Tryz.results72, go_sem]) rfl ?_
          rw [HQ.out]
          exact ⟨rfl, u', n', xs', HA'.out, by rw [HHv.out, sappend_nil]; exact HX'.out, (Two.of_below HB1.out).then HT'.out, HN'.out.mono (by omega)⟩
      · obtain ⟨b, o, rfl, hbc, hras⟩ := HB.out.2 (by omega)
        have hbc : b < c := hbc
        have HR := Lib.hid hras
        clear hras
        have Hlb := Lib.hid (show lb = bk.len from Hb0.out)
        have HU2 := Lib.hid (And.intro hul hug)
        go_loopw [23] (fun x w2 => Rec2 c u w W1 b o bk (SAttrs.append acc f) x w2) (fun x _ => bk.len - (intOf x).toNat)
        case atStart => exact ⟨0, bk, acc', u', n', xs', rfl, by omega, HA'.out, HX'.out, by rw [HHv.out], HR.out, by rw [HHv.out], HT'.out, HN'.out⟩
        case round =>
          clear HA' HX' HT' HN' hn' hug' hsT HKw HHv hsum
          obtain ⟨k2, rest2, acc2, u3, n3, xs3, rfl, hk, hA3, hx3, hval, hras, hsum, hT3, hN3⟩ := hrel
          have hn3 : n3 = acc2.len := by have h1 := hA3.2.2.1; have h2 := RSX.len _ _ hx3; omega
          have hug3 : ∀ g, u3.ownBlock = some g → c + 1 ≤ g := fun g hg => (hA3.2.2.lt g hg).1
          have HA3 := Lib.hid hA3
          have HX3 := Lib.hid hx3
          have HT3 := Lib.hid hT3
          have HN3 := Lib.hid hN3
          have hsT3 := hT3.size
          have hb := Hlb.out
          have hKw : KeepsOn (fun b => b < c) w wr := ((keeps_of_below HB1.out).on _).trans (hT3.keepsOn (fun b hb => by omega) (fun b hb e => by have := hug b e.symm; omega))
          cases rest2 with
          | nil =>
            have hke : ¬ ((k2 : Int) < (lb : Int)) := by simp only [SAttrs.len] at hk; omega
            have Hval : SAttrs.append (SAttrs.append acc f) bk = acc2 := by rw [hval, sappend_nil]
            have HHv := Lib.hid Hval
            clear hA3 hx3 hT3 hN3 hval hras hKw Hval hk hsum hb
            go_wp2
            refine bodyPost_ret (v := .tuple #[]) (by simp [results, Tryz.results72, go_sem]) rfl ?_
            rw [HQ.out]
            exact ⟨rfl, u3, n3, xs3, HA3.out, by rw [HHv.out]; exact HX3.out, (Two.of_below HB1.out).then HT3.out, HN3.out.mono (by omega)⟩
          | cons key d r =>
            have hkk : k2 + 1 + r.len = bk.len := by simp only [SAttrs.len] at hk; omega
            have hlt : (k2 : Int) < (lb : Int) := by omega
            have hk0 : (0 : Int) ≤ (k2 : Int) := by omega
            have hsum : acc2.len + 1 + r.len = (SAttrs.append acc f).len + bk.len := by simp only [SAttrs.len] at hsum; omega
            have hlen3 : (SAttrs.append acc f).len = acc.len + f.len := slen_append _ _
            unfold RSAs at hras
            obtain ⟨e0, ⟨vx, vy, e1, e2, hv⟩, hras'⟩ := hras
            have hbw : b < w.heap.size := by omega
            obtain ⟨i, rfl, hy⟩ := rsv_shape hv
            have HV := Lib.hid (hv.turn hKw (fun b hb _ => hb))
            have q0 := hKw.cell (show b < c from hbc) e0
            have q1 := hKw.cell (show b < c from hbc) e1
            have q2 := hKw.cell (show b < c from hbc) e2
            have hbr : b < wr.heap.size := World.block_lt_of_cell? _ _ q0
            have Hval := Lib.hid hval
            have HFr := Lib.hid hras'
            have HA4 := Lib.hid (fun o => hA3.alloc o)
            clear hA3 hx3 hT3 hN3 hk hras' hval hKw e0 e1 e2 hv hb
            rcases hy with rfl | ⟨ty, u2, rfl⟩
            all_goals
              go_wp2_with (go_at_call 117; refine (closA_any key i _ (by first | exact .inl rfl | exact .inr ⟨_, _, rfl⟩) c u3 n3 xs3 _ (HA4.out _) (by omega)).mono ?_; rintro e w2 ⟨rfl, v2, hA2, hT2, hN2⟩; have HA2 := Lib.hid hA2; have HT2 := Lib.hid ((Two.of_below ((Below.refl _ _).alloc (Nat.le_refl _) _)).then hT2); have HN2 := Lib.hid (show NewRow u3 v2 wr from hN2.mono (by simp)); clear hA2 hT2 hN2)
              refine ⟨⟨k2 + 1, r, SAttrs.snoc acc2 key d, v2, n3 + 1, _, by push_cast; rfl, by omega, HA2.out, RSX.snoc (HV.out.turn (HT2.out.keepsOn (fun b hb => by omega) (fun b hb e => by have := hug3 b e.symm; omega)) (fun b hb _ => hb)) _ _ (RSX.turn (HT2.out.keepsOn (fun b hb => by omega) (fun b hb e => by have := hug3 b e.symm; omega)) (fun b hb _ => hb) _ _ HX3.out), ?_, ?_, by rw [slen_snoc]; omega, HT3.out.trans HT2.out HN3.out, HN3.out.trans HN2.out HT3.out.size⟩, ?_⟩
              · have := Hval.out; rw [this, ssnoc_append]
              · have := HFr.out; rwa [show o + k2 * 3 + 3 = o + (k2 + 1) * 3 by omega] at this
              · simp only [intOf]; omega
    | cons key d r =>
      have hkk : k + 1 + r.len = f.len := by simp only [SAttrs.len] at hk; omega
      have hlt : (k : Int) < (f.len : Int) := by omega
      have hk5 : (k : Int) < 5 := by omega
      have hk0 : (0 : Int) ≤ (k : Int) := by omega
      have hsum : acc'.len + 1 + r.len = acc.len + f.len := by simp only [SAttrs.len] at hsum; omega
      obtain ⟨e0, hv, hfr'⟩ := hfr
      obtain ⟨i, e1, hy⟩ := rsv_shape hv
      have HV := Lib.hid (hv.turn hKw (fun b hb _ => hb))
      have k22 := (hW1c 22).trans HW.out.2.1
      have q0 := (hW1c (7 + k * 3)).trans (HW.out.1 _ (by omega))
      have q1 := (hW1c (7 + k * 3 + 1)).trans (HW.out.1 _ (by omega))
      have q2 := (hW1c (7 + k * 3 + 2)).trans (HW.out.1 _ (by omega))
      rw [e0] at q0
      rw [e1] at q1 HV
      have Hval := Lib.hid hval
      have HFr := Lib.hid hfr'
      clear hA' hx' hT' hN' hW1c hk hfr' hval hKw e0 e1 hv
      rcases hy with ey | ⟨ty, u2, ey⟩
      all_goals
        rw [ey] at q2 HV
        go_wp2_with (go_at_call 117; refine (closA_any key i _ (by first | exact .inl rfl | exact .inr ⟨_, _, rfl⟩) c u' n' xs' _ HA'.out (by omega)).mono ?_; rintro e w2 ⟨rfl, v2, hA2, hT2, hN2⟩; have HA2 := Lib.hid hA2; have HT2 := Lib.hid hT2; have HN2 := Lib.hid hN2; clear hA2 hT2 hN2)
        refine ⟨⟨k + 1, r, SAttrs.snoc acc' key d, v2, n' + 1, _, by push_cast; rfl, by omega, HA2.out, RSX.snoc (HV.out.turn (HT2.out.keepsOn (fun b hb => by omega) (fun b hb e => by have := hug' b e.symm; omega)) (fun b hb _ => hb)) _ _ (RSX.turn (HT2.out.keepsOn (fun b hb => by omega) (fun b hb e => by have := hug' b e.symm; omega)) (fun b hb _ => hb) _ _ HX'.out), ?_, ?_, by rw [slen_snoc]; omega, HT'.out.trans HT2.out HN'.out, HN'.out.trans HN2.out HT'.out.size⟩, ?_⟩
        · have := Hval.out; rw [this, ssnoc_append]
        · have := HFr.out; rwa [show 7 + k * 3 + 3 = 7 + (k + 1) * 3 by omega] at this
        · simp only [intOf]; omega

end Go.Proofs.YtihhgnbgejjijaaGreatDoor.Va
