/- The statement FnLgWays: the walk. -/
import Derived.Test.YtihhgnbgejjijaaGreatDoorWaysP
import Derived.Test.YtihhgnbgejjijaaGreatDoorStepY
import Derived.Deep.Cut
import Derived.Deep.DeepCutAuto
import Derived.Deep.CutBlock
namespace Go.Proofs.YtihhgnbgejjijaaGreatDoor.Va
set_option linter.unusedVariables false
set_option linter.unusedSimpArgs false
open Go Go.RowKit

theorem infoStep : (Tryz.prog.info? 73).map (fun i => (i.zero, i.size, i.bytes)) = some (some (.agg #[.int .i64 0, .string ByteArray.empty, .int .i64 0, .string ByteArray.empty, .slice none 0 0, .slice none 0 0]), 6, 96) := by kernel_rfl
theorem stepAsk_cells (w : World) : RStX w [stepAsk] [.int .i64 8, .string ⟨#[]⟩, .int .i64 1, .string ⟨#[]⟩, .slice none 0 0, .slice none 0 0] :=
  ⟨none, 0, 0, none, 0, 0, [], rfl, Nat.le_refl _, ⟨rfl, fun h => absurd h (by simp)⟩, ⟨rfl, fun h => absurd h (by simp)⟩, rfl⟩
theorem stepAsk_cellsY (w wr : World) (P : Nat → Prop) : RStY w wr P [stepAsk] [.int .i64 8, .string ⟨#[]⟩, .int .i64 1, .string ⟨#[]⟩, .slice none 0 0, .slice none 0 0] :=
  ⟨none, 0, 0, none, 0, 0, [], rfl, Nat.le_refl _, ⟨rfl, [], rfl, fun h => absurd h (by simp)⟩, ⟨rfl, fun h => absurd h (by simp)⟩, rfl⟩
/-- The turned steps, in a row of the call's own. -/
def WyRow (m : List GStep) (w : World) (x : Value) (wx : World) : Prop := ∃ n xs, n = m.length ∧ wx.ownsRow w.heap.size 73 6 x n xs ∧ RStY w wx (fun b => some b ≠ x.ownBlock) m xs ∧ Below w.heap.size w wx
/-- One round. -/
def WyRnd (l : List GStep) (w : World) (v5 : Value) (len : Nat) (s22 : Value) (wr : World) : Prop :=
  ∃ (k : Nat) (rest acc : List GStep) (xsA xsR : List Value), k + rest.length = l.length ∧ acc.length = k ∧ s22 = .int .i64 k ∧ l = acc ++ rest ∧ wr.ownsRow w.heap.size 73 6 v5 len (xsA ++ xsR) ∧ RStY w wr (fun b => some b ≠ v5.ownBlock) (acc.map way) xsA ∧ RStX w rest xsR ∧ Below w.heap.size w wr
/-- One round of the loop over a step's attributes. -/
def WyIn (w W0 : World) (m : GAttrs) (bt ot g len cap : Nat) (xsA xsR : List Value) (s : GStep) (vt : Value) (s38 : Value) (w2 : World) : Prop :=
  ∃ (j : Nat) (rest acc : GAttrs) (va : Value) (na : Nat) (ya : List Value), j + rest.len = m.len ∧ s38 = .int .i64 j ∧ m = acc.append rest ∧ acc.len = j ∧ RAs w rest bt (ot + j * 8) ∧
    w2.ownsRow w.heap.size 73 6 (.slice (some ⟨g, 0, none⟩) len cap) len (xsA ++ (cStep s va vt ++ xsR)) ∧ w2.ownsRow W0.heap.size 37 9 va na ya ∧ RArgX w (wholeArgs acc) ya ∧ KeepsOn (fun b => b ≠ g) W0 w2 ∧ Below w.heap.size w w2
theorem agets {w : World} {base g n c k : Nat} {e : TypeId} {xs ys : List Value} {s : GStep} {a b : Value} (h : w.ownsRow base e 6 (.slice (some ⟨g, 0, none⟩) n c) n (xs ++ (cStep s a b ++ ys))) (hk : xs.length = k * 6) (hn : k < n) :
    w.cell? ⟨g, k * 6, none⟩ = some (.int .i64 s.act) ∧ w.cell? ⟨g, k * 6 + 1, none⟩ = some (.string s.name) ∧ w.cell? ⟨g, k * 6 + 2, none⟩ = some (.int .i64 s.level) ∧ w.cell? ⟨g, k * 6 + 3, none⟩ = some (.string s.msg) ∧ w.cell? ⟨g, k * 6 + 4, none⟩ = some a ∧ w.cell? ⟨g, k * 6 + 5, none⟩ = some b := by
  obtain ⟨m0, m1, m2, m3, m4, m5⟩ := mid_get (xs := xs) (ys := ys) (s := s) (a := a) (b := b) hk
  exact ⟨(h.cellAt _ (by omega)).trans m0, (h.cellAt _ (by omega)).trans m1, (h.cellAt _ (by omega)).trans m2, (h.cellAt _ (by omega)).trans m3, (h.cellAt _ (by omega)).trans m4, (h.cellAt _ (by omega)).trans m5⟩

theorem own_form {w : World} {base : Nat} {e : TypeId} {size n : Nat} {v : Value} {xs : List Value} (h : w.ownsRow base e size v n xs) : ∃ A cap, v = .slice A n cap := by
  rcases h.2 with ⟨rfl, rfl⟩ | ⟨g, cap, cur, rfl, _⟩
  · exact ⟨none, 0, rfl⟩
  · exact ⟨_, cap, rfl⟩
theorem wp_world_eq {P : Program} {c : Code} {Q : Exit → Act → World → Prop} {a : Act} {w w' : World} (h : w = w') (hw : c.wp P Q a w') : c.wp P Q a w := h ▸ hw
theorem gsnoc_eq2 (k : ByteArray) (v : GVal) (l : GAttrs) : l.snoc k v = l.append (.cons k v .nil) := by rw [← snoc_append, append_nil]
theorem heap_le {W0 w2 : World} {g : Nat} (hg : g < w2.heap.size) (hk : KeepsOn (fun b => b ≠ g) W0 w2) : W0.heap.size ≤ w2.heap.size := by
  by_cases h : W0.heap.size = 0
  · omega
  · by_cases e : W0.heap.size - 1 = g
    · omega
    · have := heap_lt (hk (W0.heap.size - 1) e (by omega)) (by omega)
      omega
theorem wy_ne2 {b g n c : Nat} (hg : g < b) : some b ≠ (Value.slice (some ⟨g, 0, none⟩) n c).ownBlock := fun e => by
  have e : some b = some g := e
  injection e with e
  omega
theorem own_ge8 {base g1 n c H : Nat} {v : Value} (h : v.ownBlock = (Value.slice (some ⟨g1, 0, none⟩) n c).ownBlock ∨ v.ownBlock = some H) (h1 : base ≤ g1) (h2 : base ≤ H) : ∀ k, v.ownBlock = some k → base ≤ k := fun k hk => by
  rcases h with h | h
  · rw [hk] at h
    have h : some k = some g1 := h
    injection h with h
    omega
  · rw [hk] at h
    injection h with h
    omega
theorem wy_ne {b g n c m : Nat} (hg : m ≤ g) (hb : b < m) : some b ≠ (Value.slice (some ⟨g, 0, none⟩) n c).ownBlock := fun e => by
  have e : some b = some g := e
  injection e with e
  omega
/-- The next round's state. -/
theorem wy_next {l acc r : List GStep} {s : GStep} {w wx : World} {v5 : Value} {len k : Nat} {xsA xsR ys : List Value} {Aa At : Option Addr} {la ca lt ct : Nat} (hk : k + 1 + r.length = l.length) (hka : acc.length = k) (hval : l = acc ++ s :: r)
    (hown : wx.ownsRow w.heap.size 73 6 v5 len (xsA ++ (ys ++ xsR))) (hxA : RStY w wx (fun b => some b ≠ v5.ownBlock) (acc.map way) xsA) (hca : la ≤ ca) (ha : RArgY w wx (fun b => some b ≠ v5.ownBlock) (way s).args Aa la) (ht : RS w (way s).attrs At lt)
    (hys : ys = cStep (way s) (.slice Aa la ca) (.slice At lt ct)) (hxR : RStX w r xsR) (hB : Below w.heap.size w wx) : WyRnd l w v5 len (.int .i64 ((k : Int) + 1)) wx := by
  refine ⟨k + 1, r, acc ++ [s], xsA ++ ys, xsR, hk, by rw [List.length_append, hka]; rfl, by push_cast; rfl, by rw [hval, List.append_assoc]; rfl, by rw [List.append_assoc]; exact hown, ?_, hxR, hB⟩
  rw [List.map_append, hys]
  exact RStY.app _ _ _ _ hxA (RStY.one _ hca ha ht)

set_option maxRecDepth 100000 in
set_option maxHeartbeats 4000000 in
theorem lawLgW_core (least : Int) (l : List GStep) (w : World) (A : Option Addr) (len cap : Nat) (hl : RStepS w l A len) (h2 : ¬ (2147483647 : Int) < (len : Int)) (hn : l.length ≤ 200) (hok : ∀ s ∈ l, (0 ≤ s.act ∧ s.act ≤ 8) ∧ s.attrs.len ≤ 65536)
    (cF : ∀ wx, Keeps w wx → Calls Tryz.prog 33 #[.slice A len cap] wx (BoolEnd true wx)) (M : List GEv) (hM : 0 < M.length)
    (cL : ∀ wx A' l' c', RStepS wx (l ++ [stepAsk]) A' l' → Calls Tryz.prog 35 #[.int .i64 least, .slice A' l' c'] wx (EvsPost M wx))
    (cM : ∀ wx A' l' c', RStepS wx (l.map way ++ [stepAsk]) A' l' → Calls Tryz.prog 35 #[.int .i64 least, .slice A' l' c'] wx (EvsPost M wx))
    (cS : ∀ wx (P P' : Nat → Prop) A1 A2 l1 c1 l2 c2, REvS P wx M A1 l1 → REvS P' wx M A2 l2 → Calls Tryz.prog 29 #[.slice A1 l1 c1, .slice A2 l2 c2] wx (YesEnd wx)) :
    Calls Tryz.prog 13 #[.int .i64 least, .slice A len cap] w (YesEnd w) := by
  have hl0 := hl.1
  obtain ⟨xs0, hx0, hs0, hc0⟩ := src_steps hl
  have HX0 := Lib.hid hx0
  have HS0 := Lib.hid hs0
  have HC0 := Lib.hid hc0
  have CF := Lib.hid cF
  have CL := Lib.hid cL
  have CM := Lib.hid cM
  have CS := Lib.hid cS
  have HM := Lib.hid hM
  have Hl0 := Lib.hid hl0
  have HOK := Lib.hid hok
  have hll : len ≤ 200 := by omega
  obtain ⟨i0, hi, hz0, hz1, hz2⟩ := info_parts infoStep
  obtain ⟨j0, ji, jz0, jz1, jz2⟩ := info_parts infoArg
  obtain ⟨Q, hQ⟩ : ∃ Q : Ending → World → Prop, Q = YesEnd w := ⟨_, rfl⟩
  rw [← hQ]
  have HQ := Lib.hid hQ
  clear hQ cF cL cM cS hM hl hl0 hx0 hs0 hc0 hok hn
  unfold EvsPost at CL CM
  unfold YesEnd at CS
  go_enter Tryz.func13, Tryz.ntmps13
  go_upto_block 0 with (first
    | (go_at_call 33; (with_reducible refine (CF.out _ (keeps_of_below (by repeat' (first | with_reducible assumption | with_reducible exact Below.refl _ _ | with_reducible refine Below.setCell ?_ ?_ _ | with_reducible refine Below.alloc ?_ ?_ _ | with_reducible refine Below.drew ?_ | with_reducible refine below_drewN ?_ _ | omega | (simp; done) | (simp; omega))))).mono ?_); rintro e w2 ⟨rfl, hb2⟩; have HB2 := Lib.hid (keeps_below (show Below w.heap.size w _ from (by repeat' (first | with_reducible assumption | with_reducible exact Below.refl _ _ | with_reducible refine Below.setCell ?_ ?_ _ | with_reducible refine Below.alloc ?_ ?_ _ | with_reducible refine Below.drew ?_ | with_reducible refine below_drewN ?_ _ | omega | (simp; done) | (simp; omega)))) hb2); have hs2 := HB2.out.size; clear hb2)
    | (at_builtin; refine wpList_append_src _ rfl (.tmp 17) (.tmp 18) 57 rfl w.heap.size 73 i0 _ 6 96 Tryz.underlying57 hi hz0 hz1 hz2 rfl (by decide) (.slice (some ⟨_, 0, none⟩) 0 0) 0 [] rfl (own_lit (by first | omega | (simp; done) | (simp; omega)) rfl) A len cap xs0 rfl (HS0.out.keep (keeps_of_below (by have hbx := HB2.out; exact (by repeat' (first | with_reducible assumption | with_reducible exact Below.refl _ _ | with_reducible refine Below.setCell ?_ ?_ _ | with_reducible refine Below.alloc ?_ ?_ _ | with_reducible refine Below.drew ?_ | with_reducible refine below_drewN ?_ _ | omega | (simp; done) | (simp; omega)))))) HC0.out (by unfold maxLen; omega) (by omega) (by first | omega | (simp; done) | (simp; omega)) ?_; intro v5 w5 hown5 hgrow5 hat5; rw [Nat.zero_add, List.nil_append] at hown5; obtain ⟨A5, c5, e5⟩ := own_form hown5; subst e5; have HB5 := Lib.hid (show Below w.heap.size w w5 from Below.grown (by have hbx := HB2.out; exact (by repeat' (first | with_reducible assumption | with_reducible exact Below.refl _ _ | with_reducible refine Below.setCell ?_ ?_ _ | with_reducible refine Below.alloc ?_ ?_ _ | with_reducible refine Below.drew ?_ | with_reducible refine below_drewN ?_ _ | omega | (simp; done) | (simp; omega)))) hgrow5 (by first | omega | (simp; done) | (simp; omega)) (own_ge (by first | omega | (simp; done) | (simp; omega)))); have HO5 := Lib.hid hown5; clear hown5 hgrow5 hat5))
  go_cut [5] (fun x wx => WyRow (l.map way) w x wx)
  case rest =>
    obtain ⟨n, xs, hn, hown, hx, hB⟩ := hcut
    have HX := Lib.hid hx
    have HO := Lib.hid hown
    have HLO := Lib.hid hown.lt
    have hsz := hB.size
    have hnn : n ≤ 200 := by have h1 := Hl0.out; rw [List.length_map] at hn; omega
    have HB := Lib.hid hB
    clear hown hx hB HB5 HB2 HO5 CF hn
    go_wp2_with (first
      | (at_builtin; refine wpList_append_lies _ rfl (.tmp 85) (.tmp 87) 57 rfl w.heap.size 73 i0 _ 6 96 Tryz.underlying57 hi hz0 hz1 hz2 rfl (by decide) u5 n xs rfl (HO.out.alloc _) ⟨_, 0, none⟩ 1 1 [.int .i64 8, .string ⟨#[]⟩, .int .i64 1, .string ⟨#[]⟩, .slice none 0 0, .slice none 0 0] rfl rfl (by intro j u hj; exact cells_new _ _ _ _ (by simp) j u hj) (by intro u hu; simp at hu; (repeat' (rcases hu with rfl | hu)); all_goals (first | rfl | (subst hu; rfl))) (by decide) (by unfold maxLen; omega) (by omega) (by first | omega | (simp; done) | (simp; omega)) _ rfl ?_; intro g6 cap6 w6 hown6 hgrow6 hat6 hlt6; have hb6 : Below w.heap.size w w6 := Below.grown (by have hbx := HB.out; exact (by repeat' (first | with_reducible assumption | with_reducible exact Below.refl _ _ | with_reducible refine Below.setCell ?_ ?_ _ | with_reducible refine Below.alloc ?_ ?_ _ | with_reducible refine Below.drew ?_ | with_reducible refine below_drewN ?_ _ | omega | (simp; done) | (simp; omega)))) hgrow6 (by first | omega | (simp; done) | (simp; omega)) (fun g hg => (HLO.out g hg).1); have hs6 := hgrow6.size; (try simp only [World.size_alloc, World.size_drew] at hs6); obtain ⟨A6, c6, e6, hr6⟩ := rsteps_of_ownsY (keeps_of_below hb6) hown6 (RStY.app _ _ _ _ (HX.out.turn (Q := fun _ => True) (show KeepsOn _ wc w6 from fun b hb hlt => (hgrow6.block b (by first | omega | (simp; done) | (simp; omega)) hb).trans (old_blk hlt)) (fun _ _ _ => trivial)) (stepAsk_cellsY _ _ _)); cases e6; have HR6 := Lib.hid hr6; have HB6 := Lib.hid hb6; clear hown6 hgrow6 hat6 hlt6 hb6 hr6)
      | (at_builtin; refine wpList_append_src _ rfl (.tmp 90) (.tmp 91) 57 rfl w.heap.size 73 i0 _ 6 96 Tryz.underlying57 hi hz0 hz1 hz2 rfl (by decide) (.slice (some ⟨_, 0, none⟩) 0 0) 0 [] rfl (own_lit (by first | omega | (simp; done) | (simp; omega)) rfl) A len cap xs0 rfl (HS0.out.keep (keeps_of_below (by have hbx := HB6.out; exact (by repeat' (first | with_reducible assumption | with_reducible exact Below.refl _ _ | with_reducible refine Below.setCell ?_ ?_ _ | with_reducible refine Below.alloc ?_ ?_ _ | with_reducible refine Below.drew ?_ | with_reducible refine below_drewN ?_ _ | omega | (simp; done) | (simp; omega)))))) HC0.out (by unfold maxLen; omega) (by omega) (by first | omega | (simp; done) | (simp; omega)) ?_; intro v7 w7 hown7 hgrow7 hat7; rw [Nat.zero_add, List.nil_append] at hown7; have hs7 := hgrow7.size; (try simp only [World.size_alloc, World.size_drew] at hs7); have HB7 := Lib.hid (show Below w6.heap.size w6 w7 from Below.grown (show Below w6.heap.size w6 _ from (by repeat' (first | with_reducible assumption | with_reducible exact Below.refl _ _ | with_reducible refine Below.setCell ?_ ?_ _ | with_reducible refine Below.alloc ?_ ?_ _ | with_reducible refine Below.drew ?_ | with_reducible refine below_drewN ?_ _ | omega | (simp; done) | (simp; omega)))) hgrow7 (by first | omega | (simp; done) | (simp; omega)) (own_ge (by first | omega | (simp; done) | (simp; omega)))); have HO7 := Lib.hid hown7; have HLO7 := Lib.hid hown7.lt; have HAT7 := Lib.hid hat7; clear hown7 hgrow7 hat7)
      | (at_builtin; refine wpList_append_lies _ rfl (.tmp 92) (.tmp 94) 57 rfl w.heap.size 73 i0 _ 6 96 Tryz.underlying57 hi hz0 hz1 hz2 rfl (by decide) v7 len xs0 rfl (HO7.out.alloc _) ⟨_, 0, none⟩ 1 1 [.int .i64 8, .string ⟨#[]⟩, .int .i64 1, .string ⟨#[]⟩, .slice none 0 0, .slice none 0 0] rfl rfl (by intro j u hj; exact cells_new _ _ _ _ (by simp) j u hj) (by intro u hu; simp at hu; (repeat' (rcases hu with rfl | hu)); all_goals (first | rfl | (subst hu; rfl))) (by decide) (by unfold maxLen; omega) (by omega) (by first | omega | (simp; done) | (simp; omega)) _ rfl ?_; intro g8 cap8 w8 hown8 hgrow8 hat8 hlt8; have hs8 := hgrow8.size; (try simp only [World.size_alloc, World.size_drew] at hs8); have hb8 : Below w6.heap.size w6 w8 := Below.grown (by have hbx := HB7.out; exact (by repeat' (first | with_reducible assumption | with_reducible exact Below.refl _ _ | with_reducible refine Below.setCell ?_ ?_ _ | with_reducible refine Below.alloc ?_ ?_ _ | with_reducible refine Below.drew ?_ | with_reducible refine below_drewN ?_ _ | omega | (simp; done) | (simp; omega)))) hgrow8 (by first | omega | (simp; done) | (simp; omega)) (fun g hg => own_ge8 HAT7.out (by first | omega | (simp; done) | (simp; omega)) (by first | omega | (simp; done) | (simp; omega)) g hg); have hB8 := keeps_below HB6.out hb8; obtain ⟨A8, c8, e8, hr8⟩ := rsteps_of_owns (keeps_of_below hB8) hown8 (RStX.app _ _ _ _ HX0.out (stepAsk_cells _)); cases e8; have HR8 := Lib.hid hr8; have HB8 := Lib.hid hB8; have HK8 := Lib.hid (keeps_of_below hb8); clear hown8 hgrow8 hat8 hlt8 hb8 hB8 hr8)
      | (go_at_call 35; (with_reducible refine (CL.out _ _ _ _ HR8.out).mono ?_); rintro e w9 ⟨A9, l9, c9, rfl, hr9, hb9⟩; have HR9 := Lib.hid hr9; have HB9 := Lib.hid (keeps_below HB8.out hb9); have HK9 := Lib.hid (HK8.out.trans (keeps_of_below hb9)); have hl9 : (0 : Int) < (l9 : Int) := (by have q1 := hr9.1; have q2 := HM.out; omega); clear hr9 hb9)
      | (go_at_call 35; (with_reducible refine (CM.out _ _ _ _ (HR6.out.keep HK9.out)).mono ?_); rintro e w10 ⟨A10, l10, c10, rfl, hr10, hb10⟩; have HR10 := Lib.hid hr10; have HB10 := Lib.hid (keeps_below HB9.out hb10); have HR9' := Lib.hid (HR9.out.keep (keeps_of_below hb10)); clear hr10 hb10)
      | (go_at_call 29; (with_reducible refine (CS.out _ _ _ A9 A10 l9 c9 l10 c10 HR9'.out HR10.out).mono ?_); rintro e w11 ⟨rfl, hb11⟩; have HB11 := Lib.hid (keeps_below HB10.out hb11); clear hb11))
    rw [HQ.out]
    exact ⟨rfl, HB11.out⟩
  go_wp2
  go_loopw [22] (fun y wr => WyRnd l w (.slice A5 len c5) len y wr) (fun y _ => len - (intOf y).toNat)
  case atStart =>
    exact ⟨0, l, [], [], xs0, by omega, rfl, rfl, rfl, HO5.out, rfl, HX0.out, HB5.out⟩
  case round =>
    clear HO5 HB5 HX0 CL CM CS CF HB2 HS0
    obtain ⟨k, rest, acc, xsA, xsR, hk, hka, rfl, hval, hown, hxA, hxR, hB⟩ := hrel
    have hk' := Hl0.out
    have Hval := Lib.hid hval
    have hlA := RStY.len _ _ hxA
    rw [List.length_map, hka] at hlA
    have HLA := Lib.hid hlA
    have HKA := Lib.hid hka
    have HXA := Lib.hid hxA
    have HB := Lib.hid hB
    have hsz := hB.size
    cases rest with
    | nil =>
      have hke : ¬ ((k : Int) < (len : Int)) := by simp at hk; omega
      cases hxR
      have hacc : l = acc := by rw [Hval.out, List.append_nil]
      have HF := Lib.hid (show WyRow (l.map way) w (.slice A5 len c5) wr from ⟨len, xsA ++ [], by rw [List.length_map]; omega, hown, by rw [List.append_nil, hacc]; exact hxA, hB⟩)
      clear hk hk' hval hown hxA hB hlA hacc hka
      go_wp2
      go_meet
      case rel => exact HF.out
    | cons s r =>
      have hlt : (k : Int) < (len : Int) := by simp only [List.length_cons] at hk; omega
      have hk0 : (0 : Int) ≤ (k : Int) := by omega
      have hkl : k < len := by omega
      have hkk : k + 1 + r.length = l.length := by simp only [List.length_cons] at hk; omega
      obtain ⟨⟨ha0, ha8⟩, hat⟩ := HOK.out s (by rw [Hval.out]; exact List.mem_append_right _ (List.mem_cons_self ..))
      obtain ⟨g, cap5, e5, hg1, hg2⟩ := hown.form (by omega)
      cases e5
      obtain ⟨Aa, la, ca, At, lt, ct, xsR', rfl, hca, harg, hatt, hxR'⟩ := hxR
      have hown : wr.ownsRow w.heap.size 73 6 (.slice (some ⟨g, 0, none⟩) len c5) len (xsA ++ (cStep s (.slice Aa la ca) (.slice At lt ct) ++ xsR')) := hown
      obtain ⟨h0, h1, h2', h3, h4, h5⟩ := agets hown HLA.out hkl
      have HO := Lib.hid hown
      have HXR := Lib.hid hxR'
      have HArg := Lib.hid (And.intro hca harg)
      have HAtt := Lib.hid hatt
      have HR := Lib.hid hkk
      have hf0 := fun j => hown.frozenAt j
      have hfa := hf0 (k * 6)
      have hfb := hf0 (k * 6 + 2)
      have hfc := hf0 (k * 6 + 4)
      clear hk hk' hval hown hxA hB hlA hka hxR' hca harg hatt hkk hf0
      obtain ⟨act, name, level, msg, args, attrs⟩ := s
      simp only at h0 h1 h2' h3 ha0 ha8 hat
      have hcase : act = 0 ∨ act = 1 ∨ act = 2 ∨ act = 3 ∨ act = 4 ∨ act = 5 ∨ act = 6 ∨ act = 7 ∨ act = 8 := by omega
      clear ha0 ha8
      rcases hcase with rfl | rfl | rfl | rfl | rfl | rfl | rfl | rfl | rfl
      · have hway : way ⟨0, name, level, msg, args, attrs⟩ = ⟨0, name, level, msg, args, attrs⟩ := way_else (show (0 : Int) ≠ 3 by decide) (show ¬ (3 < (0 : Int) ∧ (0 : Int) < 8) by decide)
        have HW := Lib.hid hway
        clear hway
        go_wp2
        have hB1 : Below w.heap.size w (wr.alloc (.cells (cStep ⟨0, name, level, msg, args, attrs⟩ (.slice Aa la ca) (.slice At lt ct)).toArray 73)) := HB.out.alloc (by omega) _
        refine ⟨wy_next (s := ⟨0, name, level, msg, args, attrs⟩) HR.out HKA.out Hval.out (HO.out.alloc _) (HXA.out.turn ((KeepsOn.refl _ _).alloc _) (fun _ h _ => h)) HArg.out.1 (RArgY.of (keeps_of_below hB1) (fun b hb => wy_ne hg1 hb) (by rw [HW.out]; exact HArg.out.2)) (by rw [HW.out]; exact HAtt.out) (by rw [HW.out]) HXR.out hB1, ?_⟩
        simp only [intOf]; omega
      · have hway : way ⟨1, name, level, msg, args, attrs⟩ = ⟨1, name, level, msg, args, attrs⟩ := way_else (show (1 : Int) ≠ 3 by decide) (show ¬ (3 < (1 : Int) ∧ (1 : Int) < 8) by decide)
        have HW := Lib.hid hway
        clear hway
        go_wp2
        have hB1 : Below w.heap.size w (wr.alloc (.cells (cStep ⟨1, name, level, msg, args, attrs⟩ (.slice Aa la ca) (.slice At lt ct)).toArray 73)) := HB.out.alloc (by omega) _
        refine ⟨wy_next (s := ⟨1, name, level, msg, args, attrs⟩) HR.out HKA.out Hval.out (HO.out.alloc _) (HXA.out.turn ((KeepsOn.refl _ _).alloc _) (fun _ h _ => h)) HArg.out.1 (RArgY.of (keeps_of_below hB1) (fun b hb => wy_ne hg1 hb) (by rw [HW.out]; exact HArg.out.2)) (by rw [HW.out]; exact HAtt.out) (by rw [HW.out]) HXR.out hB1, ?_⟩
        simp only [intOf]; omega
      · have hway : way ⟨2, name, level, msg, args, attrs⟩ = ⟨2, name, level, msg, args, attrs⟩ := way_else (show (2 : Int) ≠ 3 by decide) (show ¬ (3 < (2 : Int) ∧ (2 : Int) < 8) by decide)
        have HW := Lib.hid hway
        clear hway
        go_wp2
        have hB1 : Below w.heap.size w (wr.alloc (.cells (cStep ⟨2, name, level, msg, args, attrs⟩ (.slice Aa la ca) (.slice At lt ct)).toArray 73)) := HB.out.alloc (by omega) _
        refine ⟨wy_next (s := ⟨2, name, level, msg, args, attrs⟩) HR.out HKA.out Hval.out (HO.out.alloc _) (HXA.out.turn ((KeepsOn.refl _ _).alloc _) (fun _ h _ => h)) HArg.out.1 (RArgY.of (keeps_of_below hB1) (fun b hb => wy_ne hg1 hb) (by rw [HW.out]; exact HArg.out.2)) (by rw [HW.out]; exact HAtt.out) (by rw [HW.out]) HXR.out hB1, ?_⟩
        simp only [intOf]; omega
      · obtain ⟨wo, rfl⟩ : ∃ wo : World, wo = wr := ⟨_, rfl⟩
        have hway : way ⟨3, name, level, msg, args, attrs⟩ = ⟨2, name, level, msg, wholeArgs attrs, attrs⟩ := way_three rfl
        have HW := Lib.hid hway
        clear hway
        have hst : ∃ bt ot, (0 < lt → At = some ⟨bt, ot, none⟩) ∧ RAs w attrs bt ot := by
          by_cases hz : 0 < lt
          · obtain ⟨b, o, e, hr⟩ := HAtt.out.2 hz
            exact ⟨b, o, fun _ => e, hr⟩
          · have : attrs = .nil := by have := HAtt.out.1; cases attrs with | nil => rfl | cons k v r => simp only [GAttrs.len] at this; omega
            subst this
            exact ⟨0, 0, fun h => absurd h hz, by unfold RAs; trivial⟩
        obtain ⟨bt, ot, hAt, hras⟩ := hst
        have HAT := Lib.hid hAt
        have hlt' : lt = attrs.len := HAtt.out.1
        have HLT := Lib.hid hlt'
        have hltb : lt ≤ 65536 := by omega
        clear hlt'
        go_wp2
        have hst0 := (HO.out.stored (k * 6 + 4) (.slice none 0 0)).1
        rw [(mid_set HLA.out).2.2] at hst0
        obtain ⟨W0, hW0⟩ : ∃ W0, W0 = (wo.setCell ⟨g, k * 6 + 4, none⟩ (Value.slice none 0 0)).alloc (.cells (cStep ⟨3, name, level, msg, args, attrs⟩ (.slice Aa la ca) (.slice At lt ct)).toArray 73) := ⟨_, rfl⟩
        have hO0 : W0.ownsRow w.heap.size 73 6 (.slice (some ⟨g, 0, none⟩) len c5) len (xsA ++ (cStep ⟨3, name, level, msg, args, attrs⟩ (.slice none 0 0) (.slice At lt ct) ++ xsR')) := by rw [hW0]; exact hst0.alloc _
        have hB0 : Below w.heap.size w W0 := by rw [hW0]; exact (HB.out.setCell (p := ⟨g, k * 6 + 4, none⟩) hg1 _).alloc (by simp; omega) _
        have hK0 : KeepsOn (fun b => some b ≠ (Value.slice (some ⟨g, 0, none⟩) len c5).ownBlock) wo W0 := by rw [hW0]; exact ((KeepsOn.refl _ _).setCell (p := ⟨g, k * 6 + 4, none⟩) (fun b hb e => hb (by rw [e]; rfl)) _).alloc _
        have hgW : g < W0.heap.size := (hO0.lt g rfl).2
        have hsW := hB0.size
        have HX0 := Lib.hid (show WyIn w W0 attrs bt ot g len c5 xsA xsR' ⟨3, name, level, msg, args, attrs⟩ (.slice At lt ct) (.int .i64 0) W0 from ⟨0, attrs, .nil, .slice none 0 0, 0, [], by simp, rfl, rfl, rfl, by simpa using hras, hO0, World.ownsRow_nil _ _ _ _, rfl, KeepsOn.refl _ _, hB0⟩)
        have HXA0 := Lib.hid (HXA.out.turn hK0 (fun _ h _ => h))
        refine wp_world_eq (w' := W0) hW0.symm ?_
        clear hW0 hO0 hB0 hK0 hst0 hras hAt HXA h0 h1 h2' h3 h4 h5 hfa hfb hfc
        go_loopw [38] (fun y wr => WyIn w W0 attrs bt ot g len c5 xsA xsR' ⟨3, name, level, msg, args, attrs⟩ (.slice At lt ct) y wr) (fun y _ => lt - (intOf y).toNat)
        case atStart => exact HX0.out
        case round =>
          clear HX0
          obtain ⟨j, rest, acc2, va, na, ya, hj, rfl, hval2, hja, hras, hO2, hV2, hY2, hK2, hB2⟩ := hrel
          have hk' := HLT.out
          have HO2 := Lib.hid hO2
          have HVO := Lib.hid hV2
          have HVL := Lib.hid hV2.lt
          have HY2 := Lib.hid hY2
          have HK2 := Lib.hid hK2
          have HB2 := Lib.hid hB2
          have hs2 := hB2.size
          have hgw2 : g < wr.heap.size := (hO2.lt g rfl).2
          have hna : na = acc2.len := by have q1 := hV2.1; have q2 := RArgX.len _ _ hY2; rw [wholeArgs_len] at q2; omega
          have hsz2 : W0.heap.size ≤ wr.heap.size := heap_le hgw2 hK2
          obtain ⟨h0, h1, h2', h3, h4, h5⟩ := agets hO2 HLA.out hkl
          have hf0 := fun j => hO2.frozenAt j
          have hfa := hf0 (k * 6)
          have hfc := hf0 (k * 6 + 4)
          have Hval2 := Lib.hid hval2
          cases rest with
          | nil =>
            have hke : ¬ ((j : Int) < (lt : Int)) := by simp only [GAttrs.len] at hj; omega
            have hva : attrs = acc2 := by rw [hval2, append_nil]
            obtain ⟨Av, cv, rfl, hcv, hyv⟩ := RArgY.own (P := fun b => some b ≠ (Value.slice (some ⟨g, 0, none⟩) len c5).ownBlock) hV2 hY2 (fun b hb => wy_ne2 (by have := HVL.out b hb; omega))
            have HYV := Lib.hid hyv
            have HVA := Lib.hid hva
            clear hj hk' hval2 hja hras hO2 hV2 hY2 hK2 hB2 hf0 hva hyv h1 h2' h3 h4 h5 hfc
            go_wp2
            have hst := (HO2.out.stored (k * 6) (.int .i64 2)).1
            rw [(mid_set HLA.out).1] at hst
            have hK3 : KeepsOn (fun b => some b ≠ (Value.slice (some ⟨g, 0, none⟩) len c5).ownBlock) wr (wr.setCell ⟨g, k * 6, none⟩ (.int .i64 2)) := (KeepsOn.refl _ _).setCell (p := ⟨g, k * 6, none⟩) (fun b hb e => hb (by rw [e]; rfl)) _
            have hB3 : Below w.heap.size w (wr.setCell ⟨g, k * 6, none⟩ (.int .i64 2)) := HB2.out.setCell (p := ⟨g, k * 6, none⟩) hg1 _
            refine ⟨wy_next (s := ⟨3, name, level, msg, args, attrs⟩) (xsR := xsR') HR.out HKA.out Hval.out hst (HXA0.out.turn ((HK2.out.mono (fun b hb e => hb (by rw [e]; rfl))).trans hK3) (fun _ h _ => h)) hcv (by rw [HW.out]; have := HYV.out.turn hK3 (fun _ h _ => h); rw [← HVA.out] at this; exact this) (by rw [HW.out]; exact HAtt.out) (by rw [HW.out]; rfl) HXR.out hB3, ?_⟩
            simp only [intOf]; omega
          | cons key v r =>
            have hlt2 : (j : Int) < (lt : Int) := by simp only [GAttrs.len] at hj; omega
            have hj0 : (0 : Int) ≤ (j : Int) := by omega
            have hjj : j + 1 + r.len = attrs.len := by simp only [GAttrs.len] at hj; omega
            have hnb : na ≤ 65536 := by omega
            have hAt2 := HAT.out (by omega)
            subst hAt2
            unfold RAs at hras
            obtain ⟨k0, hv, hr⟩ := hras
            have HRr := Lib.hid hr
            have hKw := keeps_of_below hB2
            have hbt : bt < wr.heap.size := World.block_lt_of_cell? wr _ (hKw.cell k0)
            have k0 := hKw.cell k0
            obtain ⟨vk, vn, vs, vt, vl⟩ := v
            unfold RVal at hv
            obtain ⟨c0, c1, c2, c3, c4, c5', c6A, c6l, c6c, c6, hlv, hAv⟩ := hv
            have HSw := Lib.hid (show RS w vl c6A c6l from ⟨hlv, hAv⟩)
            have c0 := hKw.cell c0
            have c1 := hKw.cell c1
            have c2 := hKw.cell c2
            have c3 := hKw.cell c3
            have c4 := hKw.cell c4
            have c5' := hKw.cell c5'
            have c6 := hKw.cell c6
            have HNA := Lib.hid hna
            have HJ := Lib.hid hjj
            have HJA := Lib.hid hja
            clear hj hk' hval2 hja hO2 hV2 hY2 hK2 hB2 hf0 hr hKw hlv hAv hna hjj h0 h1 h2' h3 h5 hfa
            go_wp2
            go_region_law (refine step_append_lies _ rfl (.tmp 48) (.tmp 54) 22 rfl W0.heap.size 37 j0 _ 9 104 Tryz.underlying22 ji jz0 jz1 jz2 rfl (by decide) va na ya rfl (by first | exact (HVO.out.alloc _).alloc _ | exact ((HVO.out.alloc _).alloc _).drew) ⟨_, 0, none⟩ 1 1 [.int .i64 0, .string key, .int .i64 vk, .int .u64 vn, .string vs, .int .i64 vt.sec, .int .i64 vt.nsec, .int .i64 vt.off, .slice c6A c6l c6c] rfl rfl (by intro j u hj; refine World.news_of_block (t := 37) (fr := (0, 0)) (cs := #[.int .i64 0, .string key, .int .i64 vk, .int .u64 vn, .string vs, .int .i64 vt.sec, .int .i64 vt.nsec, .int .i64 vt.off, .slice c6A c6l c6c]) ?_ j u hj; exact (by repeat' (first | (with_reducible rfl) | ((with_reducible refine new_blk ?_); (first | omega | (simp only [World.size_alloc, World.size_drew]; omega) | (simp only [World.size_alloc, World.size_drew]; done) | (with_reducible assumption))) | ((with_reducible refine (old_blk ?_).trans ?_); (· (first | omega | (simp only [World.size_alloc, World.size_drew]; omega) | (simp only [World.size_alloc, World.size_drew]; done) | (with_reducible assumption)))) | (with_reducible refine (drew_blk _ _).trans ?_) | (with_reducible assumption) | fail))) (by intro u hu; simp at hu; (repeat' (rcases hu with rfl | hu)); all_goals (first | rfl | (subst hu; rfl))) (by decide) (by unfold maxLen; omega) (by omega) (by first | omega | (simp; done) | (simp; omega)) _ rfl ?_; intro g3 cap3 w3 hown3 hgrow3 hat3 hlt3; have HG3 := Lib.hid hgrow3; have hbg : w3.heap[g]? = wr.heap[g]? := (by repeat' (first | (with_reducible rfl) | ((with_reducible refine new_blk ?_); (first | omega | (simp only [World.size_alloc, World.size_drew]; omega) | (simp only [World.size_alloc, World.size_drew]; done) | (with_reducible assumption))) | ((with_reducible refine (old_blk ?_).trans ?_); (· (first | omega | (simp only [World.size_alloc, World.size_drew]; omega) | (simp only [World.size_alloc, World.size_drew]; done) | (with_reducible assumption)))) | (with_reducible refine (drew_blk _ _).trans ?_) | ((with_reducible refine (HG3.out.block _ ?_ ?_).trans ?_); (· (first | omega | (simp only [World.size_alloc, World.size_drew]; omega) | (simp only [World.size_alloc, World.size_drew]; done) | (with_reducible assumption))); (· (first | (intro hne; (simp [Value.ownBlock] at hne; done)) | (intro hne; simp [Value.ownBlock] at hne; (first | omega | (subst hne; omega))) | (intro hne; have hne2 := HVL.out _ hne.symm; omega)))) | (with_reducible assumption) | fail)); have hcg := (World.cell?_of_block (a := ⟨g, k * 6 + 4, none⟩) hbg).trans h4; have hfg := (World.frozen?_of_block (a := ⟨g, k * 6 + 4, none⟩) hbg).trans hfc; have hs3 := hgrow3.size; (try simp only [World.size_alloc, World.size_drew] at hs3); have HBG := Lib.hid hbg; have HO3 := Lib.hid hown3; have HAT3 := Lib.hid hat3; clear hown3 hgrow3 hat3 hbg)
            all_goals
              go_wp2
              have hB3 : Below w.heap.size w w3 := Below.grown (by have hbx := HB2.out; exact (by repeat' (first | with_reducible assumption | with_reducible exact Below.refl _ _ | with_reducible refine Below.setCell ?_ ?_ _ | with_reducible refine Below.alloc ?_ ?_ _ | with_reducible refine Below.drew ?_ | with_reducible refine below_drewN ?_ _ | omega | (simp; done) | (simp; omega)))) HG3.out (by first | omega | (simp; done) | (simp; omega)) (fun g' hg' => by have := HVL.out g' hg'; omega)
              have hK3 : KeepsOn (fun b => b ≠ g) W0 w3 := fun b hb hlt => (show w3.heap[b]? = wr.heap[b]? from (by have hbw : b < wr.heap.size := (by omega); exact (by repeat' (first | (with_reducible rfl) | ((with_reducible refine new_blk ?_); (first | omega | (simp only [World.size_alloc, World.size_drew]; omega) | (simp only [World.size_alloc, World.size_drew]; done) | (with_reducible assumption))) | ((with_reducible refine (old_blk ?_).trans ?_); (· (first | omega | (simp only [World.size_alloc, World.size_drew]; omega) | (simp only [World.size_alloc, World.size_drew]; done) | (with_reducible assumption)))) | (with_reducible refine (drew_blk _ _).trans ?_) | ((with_reducible refine (HG3.out.block _ ?_ ?_).trans ?_); (· (first | omega | (simp only [World.size_alloc, World.size_drew]; omega) | (simp only [World.size_alloc, World.size_drew]; done) | (with_reducible assumption))); (· (first | (intro hne; (simp [Value.ownBlock] at hne; done)) | (intro hne; simp [Value.ownBlock] at hne; (first | omega | (subst hne; omega))) | (intro hne; have hne2 := HVL.out _ hne.symm; omega)))) | (with_reducible assumption) | fail)))).trans (HK2.out b hb hlt)
              have hO3 := ((own_to HO2.out (fun g' e _ => by cases e; exact HBG.out)).stored (k * 6 + 4) (.slice (some ⟨g3, 0, none⟩) (na + 1) cap3)).1
              rw [(mid_set HLA.out).2.2] at hO3
              have hV3 := ownsRow_setCell_other (a := ⟨g, k * 6 + 4, none⟩) HO3.out (fun e => by have e : some g3 = some g := e; injection e with e; have := (HO3.out.lt g3 rfl).1; omega) (.slice (some ⟨g3, 0, none⟩) (na + 1) cap3)
              refine ⟨⟨j + 1, r, acc2.snoc key (.mk vk vn vs vt vl), _, na + 1, _, HJ.out, by push_cast; rfl, by rw [snoc_append]; exact Hval2.out, by rw [len_snoc]; have := HJA.out; omega, by have := HRr.out; rwa [show ot + j * 8 + 8 = ot + (j + 1) * 8 by omega] at this, hO3, hV3, by rw [gsnoc_eq2, wholeArgs_app]; exact RArgX.app _ _ _ _ HY2.out ⟨c6A, c6l, c6c, [], rfl, HSw.out, rfl⟩, hK3.trans ((KeepsOn.refl _ _).setCell (p := ⟨g, k * 6 + 4, none⟩) (fun b hb => hb) _), hB3.setCell (p := ⟨g, k * 6 + 4, none⟩) hg1 _⟩, ?_⟩
              simp only [intOf]; omega
      · have hway : way ⟨4, name, level, msg, args, attrs⟩ = ⟨2, name, (-4), msg, args, attrs⟩ := way_four (show 3 < (4 : Int) by decide) (show (4 : Int) < 8 by decide)
        have HW := Lib.hid hway
        clear hway
        go_wp2
        go_region_law fail
        all_goals
          go_wp2
          have hst := (HO.out.stored (k * 6) (.int .i64 2)).1
          rw [(mid_set HLA.out).1] at hst
          have hst2 := (hst.stored (k * 6 + 2) (.int .i64 (-4))).1
          rw [(mid_set HLA.out).2.1] at hst2
          have hB1 : Below w.heap.size w (((wr.setCell ⟨g, k * 6, none⟩ (.int .i64 2)).setCell ⟨g, k * 6 + 2, none⟩ (.int .i64 (-4))).alloc (.cells (cStep ⟨4, name, level, msg, args, attrs⟩ (.slice Aa la ca) (.slice At lt ct)).toArray 73)) := (((HB.out.setCell (p := ⟨g, k * 6, none⟩) hg1 _).setCell (p := ⟨g, k * 6 + 2, none⟩) hg1 _).alloc (by simp; omega) _)
          refine ⟨wy_next (s := ⟨4, name, level, msg, args, attrs⟩) (xsR := xsR') HR.out HKA.out Hval.out ((hst2.alloc _).drew) (HXA.out.turn ((((KeepsOn.refl _ _).setCell (p := ⟨g, k * 6, none⟩) (fun b hb e => hb (by rw [e]; rfl)) _).setCell (p := ⟨g, k * 6 + 2, none⟩) (fun b hb e => hb (by rw [e]; rfl)) _).alloc _).drew (fun _ h _ => h)) HArg.out.1 (RArgY.of (keeps_of_below hB1.drew) (fun b hb => wy_ne hg1 hb) (by rw [HW.out]; exact HArg.out.2)) (by rw [HW.out]; exact HAtt.out) (by rw [HW.out]) HXR.out hB1.drew, ?_⟩
          simp only [intOf]; omega
      · have hway : way ⟨5, name, level, msg, args, attrs⟩ = ⟨2, name, 0, msg, args, attrs⟩ := way_four (show 3 < (5 : Int) by decide) (show (5 : Int) < 8 by decide)
        have HW := Lib.hid hway
        clear hway
        go_wp2
        go_region_law fail
        all_goals
          go_wp2
          have hst := (HO.out.stored (k * 6) (.int .i64 2)).1
          rw [(mid_set HLA.out).1] at hst
          have hst2 := (hst.stored (k * 6 + 2) (.int .i64 0)).1
          rw [(mid_set HLA.out).2.1] at hst2
          have hB1 : Below w.heap.size w (((wr.setCell ⟨g, k * 6, none⟩ (.int .i64 2)).setCell ⟨g, k * 6 + 2, none⟩ (.int .i64 0)).alloc (.cells (cStep ⟨5, name, level, msg, args, attrs⟩ (.slice Aa la ca) (.slice At lt ct)).toArray 73)) := (((HB.out.setCell (p := ⟨g, k * 6, none⟩) hg1 _).setCell (p := ⟨g, k * 6 + 2, none⟩) hg1 _).alloc (by simp; omega) _)
          refine ⟨wy_next (s := ⟨5, name, level, msg, args, attrs⟩) (xsR := xsR') HR.out HKA.out Hval.out ((hst2.alloc _).drew) (HXA.out.turn ((((KeepsOn.refl _ _).setCell (p := ⟨g, k * 6, none⟩) (fun b hb e => hb (by rw [e]; rfl)) _).setCell (p := ⟨g, k * 6 + 2, none⟩) (fun b hb e => hb (by rw [e]; rfl)) _).alloc _).drew (fun _ h _ => h)) HArg.out.1 (RArgY.of (keeps_of_below hB1.drew) (fun b hb => wy_ne hg1 hb) (by rw [HW.out]; exact HArg.out.2)) (by rw [HW.out]; exact HAtt.out) (by rw [HW.out]) HXR.out hB1.drew, ?_⟩
          simp only [intOf]; omega
      · have hway : way ⟨6, name, level, msg, args, attrs⟩ = ⟨2, name, 4, msg, args, attrs⟩ := way_four (show 3 < (6 : Int) by decide) (show (6 : Int) < 8 by decide)
        have HW := Lib.hid hway
        clear hway
        go_wp2
        go_region_law fail
        all_goals
          go_wp2
          have hst := (HO.out.stored (k * 6) (.int .i64 2)).1
          rw [(mid_set HLA.out).1] at hst
          have hst2 := (hst.stored (k * 6 + 2) (.int .i64 4)).1
          rw [(mid_set HLA.out).2.1] at hst2
          have hB1 : Below w.heap.size w (((wr.setCell ⟨g, k * 6, none⟩ (.int .i64 2)).setCell ⟨g, k * 6 + 2, none⟩ (.int .i64 4)).alloc (.cells (cStep ⟨6, name, level, msg, args, attrs⟩ (.slice Aa la ca) (.slice At lt ct)).toArray 73)) := (((HB.out.setCell (p := ⟨g, k * 6, none⟩) hg1 _).setCell (p := ⟨g, k * 6 + 2, none⟩) hg1 _).alloc (by simp; omega) _)
          refine ⟨wy_next (s := ⟨6, name, level, msg, args, attrs⟩) (xsR := xsR') HR.out HKA.out Hval.out ((hst2.alloc _).drew) (HXA.out.turn ((((KeepsOn.refl _ _).setCell (p := ⟨g, k * 6, none⟩) (fun b hb e => hb (by rw [e]; rfl)) _).setCell (p := ⟨g, k * 6 + 2, none⟩) (fun b hb e => hb (by rw [e]; rfl)) _).alloc _).drew (fun _ h _ => h)) HArg.out.1 (RArgY.of (keeps_of_below hB1.drew) (fun b hb => wy_ne hg1 hb) (by rw [HW.out]; exact HArg.out.2)) (by rw [HW.out]; exact HAtt.out) (by rw [HW.out]) HXR.out hB1.drew, ?_⟩
          simp only [intOf]; omega
      · have hway : way ⟨7, name, level, msg, args, attrs⟩ = ⟨2, name, 8, msg, args, attrs⟩ := way_four (show 3 < (7 : Int) by decide) (show (7 : Int) < 8 by decide)
        have HW := Lib.hid hway
        clear hway
        go_wp2
        go_region_law fail
        all_goals
          go_wp2
          have hst := (HO.out.stored (k * 6) (.int .i64 2)).1
          rw [(mid_set HLA.out).1] at hst
          have hst2 := (hst.stored (k * 6 + 2) (.int .i64 8)).1
          rw [(mid_set HLA.out).2.1] at hst2
          have hB1 : Below w.heap.size w (((wr.setCell ⟨g, k * 6, none⟩ (.int .i64 2)).setCell ⟨g, k * 6 + 2, none⟩ (.int .i64 8)).alloc (.cells (cStep ⟨7, name, level, msg, args, attrs⟩ (.slice Aa la ca) (.slice At lt ct)).toArray 73)) := (((HB.out.setCell (p := ⟨g, k * 6, none⟩) hg1 _).setCell (p := ⟨g, k * 6 + 2, none⟩) hg1 _).alloc (by simp; omega) _)
          refine ⟨wy_next (s := ⟨7, name, level, msg, args, attrs⟩) (xsR := xsR') HR.out HKA.out Hval.out ((hst2.alloc _).drew) (HXA.out.turn ((((KeepsOn.refl _ _).setCell (p := ⟨g, k * 6, none⟩) (fun b hb e => hb (by rw [e]; rfl)) _).setCell (p := ⟨g, k * 6 + 2, none⟩) (fun b hb e => hb (by rw [e]; rfl)) _).alloc _).drew (fun _ h _ => h)) HArg.out.1 (RArgY.of (keeps_of_below hB1.drew) (fun b hb => wy_ne hg1 hb) (by rw [HW.out]; exact HArg.out.2)) (by rw [HW.out]; exact HAtt.out) (by rw [HW.out]) HXR.out hB1.drew, ?_⟩
          simp only [intOf]; omega
      · have hway : way ⟨8, name, level, msg, args, attrs⟩ = ⟨8, name, level, msg, args, attrs⟩ := way_else (show (8 : Int) ≠ 3 by decide) (show ¬ (3 < (8 : Int) ∧ (8 : Int) < 8) by decide)
        have HW := Lib.hid hway
        clear hway
        go_wp2
        have hB1 : Below w.heap.size w (wr.alloc (.cells (cStep ⟨8, name, level, msg, args, attrs⟩ (.slice Aa la ca) (.slice At lt ct)).toArray 73)) := HB.out.alloc (by omega) _
        refine ⟨wy_next (s := ⟨8, name, level, msg, args, attrs⟩) HR.out HKA.out Hval.out (HO.out.alloc _) (HXA.out.turn ((KeepsOn.refl _ _).alloc _) (fun _ h _ => h)) HArg.out.1 (RArgY.of (keeps_of_below hB1) (fun b hb => wy_ne hg1 hb) (by rw [HW.out]; exact HArg.out.2)) (by rw [HW.out]; exact HAtt.out) (by rw [HW.out]) HXR.out hB1, ?_⟩
        simp only [intOf]; omega

section
variable (least : Int) (w : World) (A : Option Addr) (len cap : Nat)
set_option maxRecDepth 100000 in
set_option maxHeartbeats 400000 in
theorem lawLgW_no1 (h2 : (2147483647 : Int) < (len : Int)) : Calls Tryz.prog 13 #[.int .i64 least, .slice A len cap] w (YesEnd w) := by
  unfold YesEnd
  go_enter Tryz.func13, Tryz.ntmps13
  go_wp2
  go_ret
  exact ⟨rfl, Below.refl _ _⟩

set_option maxRecDepth 100000 in
set_option maxHeartbeats 400000 in
theorem lawLgW_no2 (h2 : ¬ (2147483647 : Int) < (len : Int)) (cF : ∀ wx, Keeps w wx → Calls Tryz.prog 33 #[.slice A len cap] wx (BoolEnd false wx)) : Calls Tryz.prog 13 #[.int .i64 least, .slice A len cap] w (YesEnd w) := by
  unfold YesEnd
  have CF := Lib.hid cF
  clear cF
  go_enter Tryz.func13, Tryz.ntmps13
  go_wp2_with (go_at_call 33; (with_reducible refine (CF.out _ (keeps_of_below (by repeat' (first | with_reducible assumption | with_reducible exact Below.refl _ _ | with_reducible refine Below.setCell ?_ ?_ _ | with_reducible refine Below.alloc ?_ ?_ _ | with_reducible refine Below.drew ?_ | with_reducible refine below_drewN ?_ _ | omega | (simp; done) | (simp; omega))))).mono ?_); rintro e w2 ⟨rfl, hb2⟩; have hB2 := keeps_below (show Below w.heap.size w _ from (by repeat' (first | with_reducible assumption | with_reducible exact Below.refl _ _ | with_reducible refine Below.setCell ?_ ?_ _ | with_reducible refine Below.alloc ?_ ?_ _ | with_reducible refine Below.drew ?_ | with_reducible refine below_drewN ?_ _ | omega | (simp; done) | (simp; omega)))) hb2)
  go_ret
  exact ⟨rfl, hB2⟩
end

theorem rows_ask {P : GStep → Prop} {l : List GStep} (h : ∀ s ∈ l, P s) (h2 : P stepAsk) : ∀ s ∈ l ++ [stepAsk], P s := fun s hs => by
  rcases List.mem_append.1 hs with hs | hs
  · exact h s hs
  · rw [List.mem_singleton.1 hs]; exact h2

/-- laws.FnLgWays. -/
theorem lawLgW_any (least : Int) (l : List GStep) (w : World) (A : Option Addr) (len cap : Nat) (hw : stepsWf l) (hl : RStepS w l A len) :
    Calls Tryz.prog 13 #[.int .i64 least, .slice A len cap] w (YesEnd w) := by
  have hll := hl.1
  by_cases h2 : (2147483647 : Int) < (len : Int)
  · exact lawLgW_no1 least w A len cap h2
  by_cases h4 : (len : Int) ≤ 200
  · have cF := fun wx (hk : Keeps w wx) => lgFine_yes l wx A len cap hw (hl.keep hk) h4
    by_cases h3 : 0 ≤ lgLeft l 65536
    · rw [decide_eq_true h3] at cF
      have hf := steps_fine l 65536 (by omega) hw h3
      obtain ⟨z1, z2⟩ := madeEvs_size least (l ++ [stepAsk]) (rows_ask (fun s hs => (hf s hs).1) stepAsk_ok.1)
      simp only [List.length_append, List.length_singleton] at z2
      obtain ⟨s1, s2, s3⟩ := ways_same least l (fun s hs => (hf s hs).2.2)
      refine lawLgW_core least l w A len cap hl h2 (by omega) (fun s hs => ⟨⟨(hf s hs).2.1.1, (hf s hs).2.1.2.1⟩, ?_⟩) cF (madeEvs least (l ++ [stepAsk])) s3
        (fun wx A' l' c' h => logger_any least _ wx A' l' c' h (rows_ask (fun s hs => (hf s hs).2.1) stepAsk_ok.2.1) (by simp; omega))
        (fun wx A' l' c' h => ?_)
        (fun wx P P' A1 A2 l1 c1 l2 c2 h1 h2 => lgSame_any _ _ wx A1 A2 l1 c1 l2 c2 s2 h1 h2 z1 (by omega))
      · have h1 := (hf s hs).1.2.2
        have h5 := len_le_size s.attrs
        omega
      · have := logger_any least _ wx A' l' c' h (rows_ask (fun s hs => ?_) stepAsk_ok.2.1) (by simp; omega)
        · rw [s1] at this
          exact this
        · obtain ⟨t, ht, rfl⟩ := List.mem_map.1 hs
          exact way_ok t (hf t ht).1 (hf t ht).2.1 (hf t ht).2.2
    · rw [decide_eq_false h3] at cF
      exact lawLgW_no2 least w A len cap h2 cF
  · exact lawLgW_no2 least w A len cap h2 (fun wx _ => lgFine_no l wx A len cap h4)

end Go.Proofs.YtihhgnbgejjijaaGreatDoor.Va
