/- The statement FnLgBelow: the walk. -/
import Derived.Test.YtihhgnbgejjijaaGreatDoorWaysP
import Derived.Test.YtihhgnbgejjijaaGreatDoorStepY
import Derived.Test.YtihhgnbgejjijaaGreatDoorArgY
import Derived.Deep.Cut
import Derived.Deep.DeepCutAuto
import Derived.Deep.CutBlock
import Derived.Deep.DrawnRows
namespace Go.Proofs.YtihhgnbgejjijaaGreatDoor.Va
set_option linter.unusedVariables false
set_option linter.unusedSimpArgs false
open Go Go.RowKit
attribute [local go_sem ↓] Go.wp_at_zero Go.wp_at_succ

theorem infoStep : (Tryz.prog.info? 73).map (fun i => (i.zero, i.size, i.bytes)) = some (some (.agg #[.int .i64 0, .string ByteArray.empty, .int .i64 0, .string ByteArray.empty, .slice none 0 0, .slice none 0 0]), 6, 96) := by kernel_rfl
/-- One round. -/
def BwRnd (least : Int) (w : World) (l : List GStep) (b o : Nat) (s5 s20 : Value) (wr : World) : Prop :=
  ∃ (k : Nat) (rest acc : List GStep) (n : Nat) (xs : List Value), k + rest.length = l.length ∧ s20 = .int .i64 k ∧ above least l = acc ++ above least rest ∧ wr.ownsRow w.heap.size 73 6 s5 n xs ∧ RStX w acc xs ∧
    RSteps w rest b (o + k * 6) ∧ (∀ s ∈ rest, 0 ≤ s.act ∧ s.act ≤ 8) ∧ acc.length + rest.length ≤ 300 ∧ Below w.heap.size w wr

def BwRow (m : List GStep) (w : World) (x : Value) (wx : World) : Prop := ∃ n xs, wx.ownsRow w.heap.size 73 6 x n xs ∧ RStX w m xs ∧ n ≤ 300 ∧ Below w.heap.size w wx
def BwTwo (least : Int) (l m : List GStep) (w : World) (x y : Value) (wx : World) : Prop :=
  ∃ A1 l1 c1 A2 l2 c2, x = .slice A1 l1 c1 ∧ y = .slice A2 l2 c2 ∧ REvS (fun _ => True) wx (madeEvs least (l ++ [stepEnd])) A1 l1 ∧ REvS (fun _ => True) wx (madeEvs least (m ++ [stepEnd])) A2 l2 ∧ Below w.heap.size w wx
theorem stepEnd_cells (w : World) : RStX w [stepEnd] [.int .i64 1, .string ⟨#[101, 110, 100]⟩, .int .i64 0, .string ⟨#[]⟩, .slice none 0 0, .slice none 0 0] :=
  ⟨none, 0, 0, none, 0, 0, [], rfl, Nat.le_refl _, ⟨rfl, fun h => absurd h (by simp)⟩, ⟨rfl, fun h => absurd h (by simp)⟩, rfl⟩
theorem six_blk {X : World} {B : Nat} {x0 x1 x2 x3 x4 x5 : Value} {t : TypeId} {fr : Nat × Nat} (h : X.heap[B]? = some (.cells #[x0, x1, x2, x3, x4, x5] t fr)) :
    X.cell? ⟨B, 0, none⟩ = some x0 ∧ X.cell? ⟨B, 1, none⟩ = some x1 ∧ X.cell? ⟨B, 2, none⟩ = some x2 ∧ X.cell? ⟨B, 3, none⟩ = some x3 ∧ X.cell? ⟨B, 4, none⟩ = some x4 ∧ X.cell? ⟨B, 5, none⟩ = some x5 :=
  ⟨cell_of_row X B 0 _ t fr h, cell_of_row X B 1 _ t fr h, cell_of_row X B 2 _ t fr h, cell_of_row X B 3 _ t fr h, cell_of_row X B 4 _ t fr h, cell_of_row X B 5 _ t fr h⟩

/-- An arm is for the operation of this slot alone. -/
theorem at_dst {P : Program} {ops : Array Oper} (d : Nat) {op : Op} {t : TypeId} {pos : String} {after : Array Edge} {gd : Option (Nat × Bool)} {a : Act} {w : World} {K : Act → World → Prop} {Q : Exit → Act → World → Prop} {E : Prop}
    (h : if Region.wanted ⟨some d, op, t, pos, after, gd⟩ (yielded ops a.tmps) = true then Oper.wp P ⟨some d, op, t, pos, after, gd⟩ a w K Q else E) :
    if Region.wanted ⟨some d, op, t, pos, after, gd⟩ (yielded ops a.tmps) = true then Oper.wp P ⟨some d, op, t, pos, after, gd⟩ a w K Q else E := h

set_option maxRecDepth 100000 in
set_option maxHeartbeats 4000000 in
theorem lawLgB_core (least : Int) (l : List GStep) (w : World) (A : Option Addr) (len cap : Nat) (hl : RStepS w l A len) (h2 : ¬ (2147483647 : Int) < (len : Int)) (hn : l.length ≤ 200) (hact : ∀ s ∈ l, 0 ≤ s.act ∧ s.act ≤ 8)
    (cF : ∀ wx, Keeps w wx → Calls Tryz.prog 33 #[.slice A len cap] wx (BoolEnd true wx))
    (cL : ∀ wx A' l' c', RStepS wx (l ++ [stepEnd]) A' l' → Calls Tryz.prog 35 #[.int .i64 least, .slice A' l' c'] wx (EvsPost (madeEvs least (l ++ [stepEnd])) wx))
    (cM : ∀ wx A' l' c', RStepS wx (above least l ++ [stepEnd]) A' l' → Calls Tryz.prog 35 #[.int .i64 least, .slice A' l' c'] wx (EvsPost (madeEvs least (above least l ++ [stepEnd])) wx))
    (cS : ∀ wx (P P' : Nat → Prop) A1 A2 l1 c1 l2 c2, REvS P wx (too (madeEvs least (l ++ [stepEnd]))) A1 l1 → REvS P' wx (too (madeEvs least (above least l ++ [stepEnd]))) A2 l2 → Calls Tryz.prog 29 #[.slice A1 l1 c1, .slice A2 l2 c2] wx (YesEnd wx))
    (hz1 : (madeEvs least (l ++ [stepEnd])).length ≤ 100000) (hz2 : (madeEvs least (above least l ++ [stepEnd])).length ≤ 100000) (hz3 : 0 < (too (madeEvs least (l ++ [stepEnd]))).length) :
    Calls Tryz.prog 12 #[.int .i64 least, .slice A len cap] w (YesEnd w) := by
  have HL0 := Lib.hid hl
  have CL := Lib.hid cL
  have CM := Lib.hid cM
  have CS := Lib.hid cS
  have HZ := Lib.hid (And.intro hz1 (And.intro hz2 hz3))
  clear cL cM cS hz1 hz2 hz3
  obtain ⟨i0, hi, hz0, hz1, hz2⟩ := info_parts infoStep
  obtain ⟨hl0, hl1⟩ := hl
  obtain ⟨Q, hQ⟩ : ∃ Q : Ending → World → Prop, Q = YesEnd w := ⟨_, rfl⟩
  rw [← hQ]
  have HQ := Lib.hid hQ
  have Hl0 := Lib.hid hl0
  have hst : ∃ b o, (0 < len → A = some ⟨b, o, none⟩) ∧ RSteps w l b o := by
    by_cases hz : 0 < len
    · obtain ⟨b, o, e, hr⟩ := hl1 hz
      exact ⟨b, o, fun _ => e, hr⟩
    · have : l = [] := List.length_eq_zero_iff.1 (by omega)
      subst this
      exact ⟨0, 0, fun h => absurd h hz, trivial⟩
  obtain ⟨b, o, hA, hs⟩ := hst
  have HA := Lib.hid hA
  have HS := Lib.hid (And.intro hs hact)
  have HN := Lib.hid hn
  have CF := Lib.hid cF
  clear hQ hl0 hl1 hA hs hn cF hact
  go_enter Tryz.func12, Tryz.ntmps12
  go_upto_block 0 with (go_at_call 33; (with_reducible refine (CF.out _ (keeps_of_below (by repeat' (first | with_reducible assumption | with_reducible exact Below.refl _ _ | with_reducible refine Below.setCell ?_ ?_ _ | with_reducible refine Below.alloc ?_ ?_ _ | with_reducible refine Below.drew ?_ | with_reducible refine below_drewN ?_ _ | omega | (simp; done) | (simp; omega))))).mono ?_); rintro e w2 ⟨rfl, hb2⟩; have hB2 := keeps_below (show Below w.heap.size w _ from (by repeat' (first | with_reducible assumption | with_reducible exact Below.refl _ _ | with_reducible refine Below.setCell ?_ ?_ _ | with_reducible refine Below.alloc ?_ ?_ _ | with_reducible refine Below.drew ?_ | with_reducible refine below_drewN ?_ _ | omega | (simp; done) | (simp; omega)))) hb2)
  go_cut [5] (fun x wx => BwRow (above least l) w x wx)
  case rest =>
    obtain ⟨n, xs, hown, hx, hnn, hB⟩ := hcut
    obtain ⟨wr, hwr⟩ : ∃ wr, wr = wc := ⟨_, rfl⟩
    subst hwr
    obtain ⟨xs0, hx0, hs0, hc0⟩ := src_steps HL0.out
    have HX := Lib.hid hx
    have HO := Lib.hid hown
    have HLO := Lib.hid hown.lt
    have hsz := hB.size
    have HX0 := Lib.hid hx0
    have HS0 := Lib.hid hs0
    have HC0 := Lib.hid hc0
    have hll : len ≤ 200 := by have := HN.out; have := Hl0.out; omega
    have HB := Lib.hid hB
    clear hown hx hx0 hs0 hc0 hB HS HA CF hb2 hB2
    unfold EvsPost at CL CM
    unfold YesEnd at CS
    unfold TooPost at *
    go_upto_region 16 with fail
    go_cut [10, 11] (fun x y wx => BwTwo least l (above least l) w x y wx)
    case first =>
      go_region_held3 (fun wx => wx.cell? ⟨wr.heap.size, 0, none⟩ = some (.int .i64 1) ∧ wx.cell? ⟨wr.heap.size, 1, none⟩ = some (.string ⟨#[101, 110, 100]⟩) ∧ wx.cell? ⟨wr.heap.size, 2, none⟩ = some (.int .i64 0) ∧ wx.cell? ⟨wr.heap.size, 3, none⟩ = some (.string ⟨#[]⟩) ∧ wx.cell? ⟨wr.heap.size, 4, none⟩ = some (.slice none 0 0) ∧ wx.cell? ⟨wr.heap.size, 5, none⟩ = some (.slice none 0 0)) (exact six_blk (t := 73) (fr := (0, 0)) (by repeat' (first | (with_reducible rfl) | ((with_reducible refine (old_blk ?_).trans ?_); (· (first | (with_reducible assumption) | (simp only [World.size_alloc, World.size_drew]; omega) | omega | (simp only [World.size_alloc, World.size_drew]; done)))) | ((with_reducible refine new_blk ?_); (first | (with_reducible assumption) | (simp only [World.size_alloc, World.size_drew]; omega) | omega | (simp only [World.size_alloc, World.size_drew]; done))) | (with_reducible refine (drew_blk _ _).trans ?_) | ((with_reducible refine (HG12.out.block _ ?_ ?_).trans ?_); (· (first | (with_reducible assumption) | (simp only [World.size_alloc, World.size_drew]; omega) | omega | (simp only [World.size_alloc, World.size_drew]; done))); (· (first | (intro hne; (simp [Value.ownBlock] at hne; done)) | (intro hne; simp [Value.ownBlock] at hne; (first | omega | (subst hne; omega))) | ((with_reducible refine ne_lt HLO.out ?_); (first | (with_reducible assumption) | (simp only [World.size_alloc, World.size_drew]; omega) | omega | (simp only [World.size_alloc, World.size_drew]; done)))))) | ((with_reducible refine (HG6.out.block _ ?_ ?_).trans ?_); (· (first | (with_reducible assumption) | (simp only [World.size_alloc, World.size_drew]; omega) | omega | (simp only [World.size_alloc, World.size_drew]; done))); (· (first | (intro hne; (simp [Value.ownBlock] at hne; done)) | (intro hne; simp [Value.ownBlock] at hne; (first | omega | (subst hne; omega))) | ((with_reducible refine ne_at HAT3.out ?_ ?_); (· (first | (with_reducible assumption) | (simp only [World.size_alloc, World.size_drew]; omega) | omega | (simp only [World.size_alloc, World.size_drew]; done))); (· (first | (with_reducible assumption) | (simp only [World.size_alloc, World.size_drew]; omega) | omega | (simp only [World.size_alloc, World.size_drew]; done)))) | ((with_reducible refine ne_lt HLO3.out ?_); (first | (with_reducible assumption) | (simp only [World.size_alloc, World.size_drew]; omega) | omega | (simp only [World.size_alloc, World.size_drew]; done)))))) | ((with_reducible refine (HG3.out.block _ ?_ ?_).trans ?_); (· (first | (with_reducible assumption) | (simp only [World.size_alloc, World.size_drew]; omega) | omega | (simp only [World.size_alloc, World.size_drew]; done))); (· (first | (intro hne; (simp [Value.ownBlock] at hne; done)) | (intro hne; simp [Value.ownBlock] at hne; (first | omega | (subst hne; omega)))))) | ((with_reducible refine (HB13.out.block _ ?_).trans ?_); (· (first | (with_reducible assumption) | (simp only [World.size_alloc, World.size_drew]; omega) | omega | (simp only [World.size_alloc, World.size_drew]; done)))) | ((with_reducible refine (HB7.out.block _ ?_).trans ?_); (· (first | (with_reducible assumption) | (simp only [World.size_alloc, World.size_drew]; omega) | omega | (simp only [World.size_alloc, World.size_drew]; done)))) | (with_reducible assumption) | fail))) (first
        | ((with_reducible refine at_dst 55 ?_); have hBB := HB.out; refine step_append_src _ rfl (.tmp 53) (.tmp 54) 57 rfl w.heap.size 73 i0 _ 6 96 Tryz.underlying57 hi hz0 hz1 hz2 rfl (by decide) (.slice (some ⟨_, 0, none⟩) 0 0) 0 [] rfl (by first | exact own_lit (by first | omega | (simp; done) | (simp; omega)) (by simp) | exact (own_lit (by first | omega | (simp; done) | (simp; omega)) (by simp)).alloc _ | exact ((own_lit (by first | omega | (simp; done) | (simp; omega)) (by simp)).alloc _).alloc _) A len cap xs0 rfl (HS0.out.keep (keeps_of_below (by repeat' (first | with_reducible assumption | with_reducible exact Below.refl _ _ | with_reducible refine Below.setCell ?_ ?_ _ | with_reducible refine Below.alloc ?_ ?_ _ | with_reducible refine Below.drew ?_ | with_reducible refine below_drewN ?_ _ | omega | (simp; done) | (simp; omega))))) HC0.out (by unfold maxLen; omega) (by omega) (by first | omega | (simp; done) | (simp; omega)) ?_; intro v3 w3 hown3 hgrow3 hat3; rw [Nat.zero_add, List.nil_append] at hown3; have HAT3 := Lib.hid hat3; have hB3 : Below w.heap.size w w3 := Below.grown (by repeat' (first | with_reducible assumption | with_reducible exact Below.refl _ _ | with_reducible refine Below.setCell ?_ ?_ _ | with_reducible refine Below.alloc ?_ ?_ _ | with_reducible refine Below.drew ?_ | with_reducible refine below_drewN ?_ _ | omega | (simp; done) | (simp; omega))) hgrow3 (by first | omega | (simp; done) | (simp; omega)) (own_ge (by first | omega | (simp; done) | (simp; omega))); have HB3 := Lib.hid hB3; have HO3 := Lib.hid hown3; have HLO3 := Lib.hid hown3.lt; have HG3 := Lib.hid hgrow3; have hs3 := hgrow3.size; (try simp only [World.size_alloc, World.size_drew] at hs3); clear hown3 hgrow3 hat3 hB3 hBB)
        | ((with_reducible refine at_dst 58 ?_); refine step_append_lies _ rfl (.tmp 55) (.tmp 57) 57 rfl w.heap.size 73 i0 _ 6 96 Tryz.underlying57 hi hz0 hz1 hz2 rfl (by decide) v3 len xs0 rfl (by first | exact HO3.out | exact HO3.out.alloc _ | exact (HO3.out.alloc _).alloc _) ⟨_, 0, none⟩ 1 1 [.int .i64 1, .string ⟨#[101, 110, 100]⟩, .int .i64 0, .string ⟨#[]⟩, .slice none 0 0, .slice none 0 0] rfl rfl (by intro j u hj; refine World.news_of_block (t := 73) (fr := (0, 0)) (cs := #[.int .i64 1, .string ⟨#[101, 110, 100]⟩, .int .i64 0, .string ⟨#[]⟩, .slice none 0 0, .slice none 0 0]) ?_ j u hj; exact (by repeat' (first | (with_reducible rfl) | ((with_reducible refine (old_blk ?_).trans ?_); (· (first | (with_reducible assumption) | (simp only [World.size_alloc, World.size_drew]; omega) | omega | (simp only [World.size_alloc, World.size_drew]; done)))) | ((with_reducible refine new_blk ?_); (first | (with_reducible assumption) | (simp only [World.size_alloc, World.size_drew]; omega) | omega | (simp only [World.size_alloc, World.size_drew]; done))) | (with_reducible refine (drew_blk _ _).trans ?_) | ((with_reducible refine (HG12.out.block _ ?_ ?_).trans ?_); (· (first | (with_reducible assumption) | (simp only [World.size_alloc, World.size_drew]; omega) | omega | (simp only [World.size_alloc, World.size_drew]; done))); (· (first | (intro hne; (simp [Value.ownBlock] at hne; done)) | (intro hne; simp [Value.ownBlock] at hne; (first | omega | (subst hne; omega))) | ((with_reducible refine ne_lt HLO.out ?_); (first | (with_reducible assumption) | (simp only [World.size_alloc, World.size_drew]; omega) | omega | (simp only [World.size_alloc, World.size_drew]; done)))))) | ((with_reducible refine (HG6.out.block _ ?_ ?_).trans ?_); (· (first | (with_reducible assumption) | (simp only [World.size_alloc, World.size_drew]; omega) | omega | (simp only [World.size_alloc, World.size_drew]; done))); (· (first | (intro hne; (simp [Value.ownBlock] at hne; done)) | (intro hne; simp [Value.ownBlock] at hne; (first | omega | (subst hne; omega))) | ((with_reducible refine ne_at HAT3.out ?_ ?_); (· (first | (with_reducible assumption) | (simp only [World.size_alloc, World.size_drew]; omega) | omega | (simp only [World.size_alloc, World.size_drew]; done))); (· (first | (with_reducible assumption) | (simp only [World.size_alloc, World.size_drew]; omega) | omega | (simp only [World.size_alloc, World.size_drew]; done)))) | ((with_reducible refine ne_lt HLO3.out ?_); (first | (with_reducible assumption) | (simp only [World.size_alloc, World.size_drew]; omega) | omega | (simp only [World.size_alloc, World.size_drew]; done)))))) | ((with_reducible refine (HG3.out.block _ ?_ ?_).trans ?_); (· (first | (with_reducible assumption) | (simp only [World.size_alloc, World.size_drew]; omega) | omega | (simp only [World.size_alloc, World.size_drew]; done))); (· (first | (intro hne; (simp [Value.ownBlock] at hne; done)) | (intro hne; simp [Value.ownBlock] at hne; (first | omega | (subst hne; omega)))))) | ((with_reducible refine (HB13.out.block _ ?_).trans ?_); (· (first | (with_reducible assumption) | (simp only [World.size_alloc, World.size_drew]; omega) | omega | (simp only [World.size_alloc, World.size_drew]; done)))) | ((with_reducible refine (HB7.out.block _ ?_).trans ?_); (· (first | (with_reducible assumption) | (simp only [World.size_alloc, World.size_drew]; omega) | omega | (simp only [World.size_alloc, World.size_drew]; done)))) | (with_reducible assumption) | fail))) (by intro u hu; simp at hu; (repeat' (rcases hu with rfl | hu)); all_goals (first | rfl | (subst hu; rfl))) (by decide) (by unfold maxLen; omega) (by omega) (by first | omega | (simp; done) | (simp; omega)) _ rfl ?_; intro g6 cap6 w6 hown6 hgrow6 hat6 hlt6; have hs6 := hgrow6.size; (try simp only [World.size_alloc, World.size_drew] at hs6); have hB6 : Below w.heap.size w w6 := Below.grown (by have := HB3.out; exact (by repeat' (first | with_reducible assumption | with_reducible exact Below.refl _ _ | with_reducible refine Below.setCell ?_ ?_ _ | with_reducible refine Below.alloc ?_ ?_ _ | with_reducible refine Below.drew ?_ | with_reducible refine below_drewN ?_ _ | omega | (simp; done) | (simp; omega)))) hgrow6 (by first | omega | (simp; done) | (simp; omega)) (fun g hg => (HLO3.out g hg).1); have HB6 := Lib.hid hB6; have HG6 := Lib.hid hgrow6; have hr6 := rsteps_of_owns (keeps_of_below hB6) hown6 (RStX.app _ _ _ _ HX0.out (stepEnd_cells _)); obtain ⟨A6, c6, e6, hr6⟩ := hr6; cases e6; have HR6 := Lib.hid hr6; clear hown6 hgrow6 hat6 hlt6 hB6 hr6)
        | (go_at_call 35; (with_reducible refine (CL.out _ _ _ _ (HR6.out.keep (keeps_of_below (by repeat' (first | with_reducible assumption | with_reducible exact Below.refl _ _ | with_reducible refine Below.setCell ?_ ?_ _ | with_reducible refine Below.alloc ?_ ?_ _ | with_reducible refine Below.drew ?_ | with_reducible refine below_drewN ?_ _ | omega | (simp; done) | (simp; omega)))))).mono ?_); rintro e w7 ⟨A7, l7, c7, rfl, hr7, hb7⟩; have hs7 := hb7.size; (try simp only [World.size_alloc, World.size_drew] at hs7); have HB7 := Lib.hid hb7; have HB7w := Lib.hid (keeps_below (show Below w.heap.size w _ from (by have := HB6.out; exact (by repeat' (first | with_reducible assumption | with_reducible exact Below.refl _ _ | with_reducible refine Below.setCell ?_ ?_ _ | with_reducible refine Below.alloc ?_ ?_ _ | with_reducible refine Below.drew ?_ | with_reducible refine below_drewN ?_ _ | omega | (simp; done) | (simp; omega))))) hb7); have HR7 := Lib.hid hr7; clear hr7 hb7)
        | ((with_reducible refine at_dst 64 ?_); refine step_append_lies _ rfl (.tmp 61) (.tmp 63) 57 rfl w.heap.size 73 i0 _ 6 96 Tryz.underlying57 hi hz0 hz1 hz2 rfl (by decide) u5 n xs rfl (own_to HO.out (fun g hg hlt => (by repeat' (first | (with_reducible rfl) | ((with_reducible refine (old_blk ?_).trans ?_); (· (first | (with_reducible assumption) | (simp only [World.size_alloc, World.size_drew]; omega) | omega | (simp only [World.size_alloc, World.size_drew]; done)))) | ((with_reducible refine new_blk ?_); (first | (with_reducible assumption) | (simp only [World.size_alloc, World.size_drew]; omega) | omega | (simp only [World.size_alloc, World.size_drew]; done))) | (with_reducible refine (drew_blk _ _).trans ?_) | ((with_reducible refine (HG12.out.block _ ?_ ?_).trans ?_); (· (first | (with_reducible assumption) | (simp only [World.size_alloc, World.size_drew]; omega) | omega | (simp only [World.size_alloc, World.size_drew]; done))); (· (first | (intro hne; (simp [Value.ownBlock] at hne; done)) | (intro hne; simp [Value.ownBlock] at hne; (first | omega | (subst hne; omega))) | ((with_reducible refine ne_lt HLO.out ?_); (first | (with_reducible assumption) | (simp only [World.size_alloc, World.size_drew]; omega) | omega | (simp only [World.size_alloc, World.size_drew]; done)))))) | ((with_reducible refine (HG6.out.block _ ?_ ?_).trans ?_); (· (first | (with_reducible assumption) | (simp only [World.size_alloc, World.size_drew]; omega) | omega | (simp only [World.size_alloc, World.size_drew]; done))); (· (first | (intro hne; (simp [Value.ownBlock] at hne; done)) | (intro hne; simp [Value.ownBlock] at hne; (first | omega | (subst hne; omega))) | ((with_reducible refine ne_at HAT3.out ?_ ?_); (· (first | (with_reducible assumption) | (simp only [World.size_alloc, World.size_drew]; omega) | omega | (simp only [World.size_alloc, World.size_drew]; done))); (· (first | (with_reducible assumption) | (simp only [World.size_alloc, World.size_drew]; omega) | omega | (simp only [World.size_alloc, World.size_drew]; done)))) | ((with_reducible refine ne_lt HLO3.out ?_); (first | (with_reducible assumption) | (simp only [World.size_alloc, World.size_drew]; omega) | omega | (simp only [World.size_alloc, World.size_drew]; done)))))) | ((with_reducible refine (HG3.out.block _ ?_ ?_).trans ?_); (· (first | (with_reducible assumption) | (simp only [World.size_alloc, World.size_drew]; omega) | omega | (simp only [World.size_alloc, World.size_drew]; done))); (· (first | (intro hne; (simp [Value.ownBlock] at hne; done)) | (intro hne; simp [Value.ownBlock] at hne; (first | omega | (subst hne; omega)))))) | ((with_reducible refine (HB13.out.block _ ?_).trans ?_); (· (first | (with_reducible assumption) | (simp only [World.size_alloc, World.size_drew]; omega) | omega | (simp only [World.size_alloc, World.size_drew]; done)))) | ((with_reducible refine (HB7.out.block _ ?_).trans ?_); (· (first | (with_reducible assumption) | (simp only [World.size_alloc, World.size_drew]; omega) | omega | (simp only [World.size_alloc, World.size_drew]; done)))) | (with_reducible assumption) | fail)))) ⟨_, 0, none⟩ 1 1 [.int .i64 1, .string ⟨#[101, 110, 100]⟩, .int .i64 0, .string ⟨#[]⟩, .slice none 0 0, .slice none 0 0] rfl rfl (by intro j u hj; refine World.news_of_block (t := 73) (fr := (0, 0)) (cs := #[.int .i64 1, .string ⟨#[101, 110, 100]⟩, .int .i64 0, .string ⟨#[]⟩, .slice none 0 0, .slice none 0 0]) ?_ j u hj; exact (by repeat' (first | (with_reducible rfl) | ((with_reducible refine (old_blk ?_).trans ?_); (· (first | (with_reducible assumption) | (simp only [World.size_alloc, World.size_drew]; omega) | omega | (simp only [World.size_alloc, World.size_drew]; done)))) | ((with_reducible refine new_blk ?_); (first | (with_reducible assumption) | (simp only [World.size_alloc, World.size_drew]; omega) | omega | (simp only [World.size_alloc, World.size_drew]; done))) | (with_reducible refine (drew_blk _ _).trans ?_) | ((with_reducible refine (HG12.out.block _ ?_ ?_).trans ?_); (· (first | (with_reducible assumption) | (simp only [World.size_alloc, World.size_drew]; omega) | omega | (simp only [World.size_alloc, World.size_drew]; done))); (· (first | (intro hne; (simp [Value.ownBlock] at hne; done)) | (intro hne; simp [Value.ownBlock] at hne; (first | omega | (subst hne; omega))) | ((with_reducible refine ne_lt HLO.out ?_); (first | (with_reducible assumption) | (simp only [World.size_alloc, World.size_drew]; omega) | omega | (simp only [World.size_alloc, World.size_drew]; done)))))) | ((with_reducible refine (HG6.out.block _ ?_ ?_).trans ?_); (· (first | (with_reducible assumption) | (simp only [World.size_alloc, World.size_drew]; omega) | omega | (simp only [World.size_alloc, World.size_drew]; done))); (· (first | (intro hne; (simp [Value.ownBlock] at hne; done)) | (intro hne; simp [Value.ownBlock] at hne; (first | omega | (subst hne; omega))) | ((with_reducible refine ne_at HAT3.out ?_ ?_); (· (first | (with_reducible assumption) | (simp only [World.size_alloc, World.size_drew]; omega) | omega | (simp only [World.size_alloc, World.size_drew]; done))); (· (first | (with_reducible assumption) | (simp only [World.size_alloc, World.size_drew]; omega) | omega | (simp only [World.size_alloc, World.size_drew]; done)))) | ((with_reducible refine ne_lt HLO3.out ?_); (first | (with_reducible assumption) | (simp only [World.size_alloc, World.size_drew]; omega) | omega | (simp only [World.size_alloc, World.size_drew]; done)))))) | ((with_reducible refine (HG3.out.block _ ?_ ?_).trans ?_); (· (first | (with_reducible assumption) | (simp only [World.size_alloc, World.size_drew]; omega) | omega | (simp only [World.size_alloc, World.size_drew]; done))); (· (first | (intro hne; (simp [Value.ownBlock] at hne; done)) | (intro hne; simp [Value.ownBlock] at hne; (first | omega | (subst hne; omega)))))) | ((with_reducible refine (HB13.out.block _ ?_).trans ?_); (· (first | (with_reducible assumption) | (simp only [World.size_alloc, World.size_drew]; omega) | omega | (simp only [World.size_alloc, World.size_drew]; done)))) | ((with_reducible refine (HB7.out.block _ ?_).trans ?_); (· (first | (with_reducible assumption) | (simp only [World.size_alloc, World.size_drew]; omega) | omega | (simp only [World.size_alloc, World.size_drew]; done)))) | (with_reducible assumption) | fail))) (by intro u hu; simp at hu; (repeat' (rcases hu with rfl | hu)); all_goals (first | rfl | (subst hu; rfl))) (by decide) (by unfold maxLen; omega) (by omega) (by first | omega | (simp; done) | (simp; omega)) _ rfl ?_; intro g12 cap12 w12 hown12 hgrow12 hat12 hlt12; have hs12 := hgrow12.size; (try simp only [World.size_alloc, World.size_drew] at hs12); have hB12 : Below w.heap.size w w12 := Below.grown (by have := HB7w.out; exact (by repeat' (first | with_reducible assumption | with_reducible exact Below.refl _ _ | with_reducible refine Below.setCell ?_ ?_ _ | with_reducible refine Below.alloc ?_ ?_ _ | with_reducible refine Below.drew ?_ | with_reducible refine below_drewN ?_ _ | omega | (simp; done) | (simp; omega)))) hgrow12 (by first | omega | (simp; done) | (simp; omega)) (fun g hg => (HLO.out g hg).1); have HB12 := Lib.hid hB12; have HG12 := Lib.hid hgrow12; have hr12 := rsteps_of_owns (keeps_of_below hB12) hown12 (RStX.app _ _ _ _ HX.out (stepEnd_cells _)); obtain ⟨A12, c12, e12, hr12⟩ := hr12; cases e12; have hr12' : RStepS w12 (above least l ++ [stepEnd]) (some ⟨g12, 0, none⟩) (n + 1) := hr12; have HR12 := Lib.hid hr12'; clear hr12'; have HR7' := Lib.hid (HR7.out.turn (Q := fun _ => True) (show KeepsOn _ w7 w12 from fun b hb hlt => (by repeat' (first | (with_reducible rfl) | ((with_reducible refine (old_blk ?_).trans ?_); (· (first | (with_reducible assumption) | (simp only [World.size_alloc, World.size_drew]; omega) | omega | (simp only [World.size_alloc, World.size_drew]; done)))) | ((with_reducible refine new_blk ?_); (first | (with_reducible assumption) | (simp only [World.size_alloc, World.size_drew]; omega) | omega | (simp only [World.size_alloc, World.size_drew]; done))) | (with_reducible refine (drew_blk _ _).trans ?_) | ((with_reducible refine (HG12.out.block _ ?_ ?_).trans ?_); (· (first | (with_reducible assumption) | (simp only [World.size_alloc, World.size_drew]; omega) | omega | (simp only [World.size_alloc, World.size_drew]; done))); (· (first | (intro hne; (simp [Value.ownBlock] at hne; done)) | (intro hne; simp [Value.ownBlock] at hne; (first | omega | (subst hne; omega))) | (intro hne; have hne2 := HLO.out _ hne.symm; simp at hb; omega)))) | (with_reducible assumption) | fail))) (fun _ _ _ => trivial)); clear hown12 hgrow12 hat12 hlt12 hB12 hr12)
        | (go_at_call 35; (with_reducible refine (CM.out _ _ _ _ (HR12.out.keep (keeps_of_below (by repeat' (first | with_reducible assumption | with_reducible exact Below.refl _ _ | with_reducible refine Below.setCell ?_ ?_ _ | with_reducible refine Below.alloc ?_ ?_ _ | with_reducible refine Below.drew ?_ | with_reducible refine below_drewN ?_ _ | omega | (simp; done) | (simp; omega)))))).mono ?_); rintro e w13 ⟨A13, l13, c13, rfl, hr13, hb13⟩; have HB13 := Lib.hid hb13; have hB13 := keeps_below (show Below w.heap.size w _ from (by have := HB12.out; exact (by repeat' (first | with_reducible assumption | with_reducible exact Below.refl _ _ | with_reducible refine Below.setCell ?_ ?_ _ | with_reducible refine Below.alloc ?_ ?_ _ | with_reducible refine Below.drew ?_ | with_reducible refine below_drewN ?_ _ | omega | (simp; done) | (simp; omega))))) hb13; have hr7k := HR7'.out.keep (keeps_of_below hb13); have hr13k := hr13.turn (Q := fun _ => True) (KeepsOn.refl _ _) (fun _ _ _ => trivial); have HF := Lib.hid (And.intro hr7k (And.intro hr13k hB13)); clear hB13 hr7k hr13k; clear hr13 hb13))
      all_goals
        go_wp2_with fail
        go_meet
        case rel => exact ⟨_, _, _, _, _, _, rfl, rfl, HF.out.1, HF.out.2.1, HF.out.2.2⟩
    case rest =>
      obtain ⟨A1, l1, c1, A2, l2, c2, rfl, rfl, hr1, hr2, hB2⟩ := hcut
      have HR1 := Lib.hid hr1
      have HR2 := Lib.hid hr2
      have HB2 := Lib.hid hB2
      clear hr1 hr2 hB2 HO HX
      go_wp2_with (first
        | (go_at_call 30; (with_reducible refine (lgToo_any _ _ A2 l2 c2 (HR2.out.keep HK4.out) HZ.out.2.1).mono ?_); rintro e w5 ⟨A5, l5, c5, rfl, hr5, hb5⟩; have HR5 := Lib.hid hr5; have HR4' := Lib.hid (HR4.out.keep (keeps_of_below hb5)); have HB5 := Lib.hid (keeps_below HB4.out hb5); clear hr5 hb5)
        | (go_at_call 30; (with_reducible refine (lgToo_any _ _ A1 l1 c1 (HR1.out.keep HK3.out) HZ.out.1).mono ?_); rintro e w4 ⟨A4, l4, c4, rfl, hr4, hb4⟩; have HR4 := Lib.hid hr4; have HB4 := Lib.hid (keeps_below HB3.out hb4); have HK4 := Lib.hid (HK3.out.trans (keeps_of_below hb4)); clear hr4 hb4)
        | (go_at_call 30; (with_reducible refine (lgToo_any _ _ A1 l1 c1 HR1.out HZ.out.1).mono ?_); rintro e w3 ⟨A3, l3, c3, rfl, hr3, hb3⟩; have hl3 : (0 : Int) < (l3 : Int) := (by have h1 := hr3.1; have h2 := HZ.out.2.2; omega); have HB3 := Lib.hid (keeps_below HB2.out hb3); have HK3 := Lib.hid (keeps_of_below hb3); clear hr3 hb3)
        | (go_at_call 29; (with_reducible refine (CS.out _ _ _ A4 A5 l4 c4 l5 c5 HR4'.out HR5.out).mono ?_); rintro e w6 ⟨rfl, hb6⟩; have HB6 := Lib.hid (keeps_below HB5.out hb6); clear hb6))
      rw [HQ.out]
      exact ⟨rfl, HB6.out⟩

  go_wp2
  go_loopw [5, 20] (fun x y wr => BwRnd least w l b o x y wr) (fun _ y _ => len - (intOf y).toNat)
  case atStart =>
    exact ⟨0, l, [], 0, [], by omega, rfl, rfl, World.ownsRow_nil _ _ _ _, rfl, by simpa using HS.out.1, HS.out.2, by have := HN.out; simp; omega, hB2⟩
  case round =>
    clear HS
    obtain ⟨k, rest, acc, n, xs, hk, rfl, hval, hown, hx, hrs, hact, hac, hB⟩ := hrel
    have hk' := Hl0.out
    have Hval := Lib.hid hval
    have HX := Lib.hid hx
    have HO := Lib.hid hown
    have HLO := Lib.hid hown.lt
    have hsz := hB.size
    have hn : n = acc.length := by have h1 := hown.1; have h2 := RStX.len acc xs hx; omega
    cases rest with
    | nil =>
      have hke : ¬ ((k : Int) < (len : Int)) := by simp at hk; omega
      have hab : above least l = acc := by have := Hval.out; rwa [show above least [] = [] from rfl, List.append_nil] at this
      have hac' : n ≤ 300 := by simp at hac; omega
      have HF := Lib.hid (show BwRow (above least l) w u5 wr from ⟨n, xs, hown, by rw [hab]; exact hx, hac', hB⟩)
      clear hk hk' hrs hown hx hval hn hact hac hab hac'
      go_wp2
      go_meet
      case rel => exact HF.out    | cons s r =>
      have hlt : (k : Int) < (len : Int) := by simp only [List.length_cons] at hk; omega
      have hk0 : (0 : Int) ≤ (k : Int) := by omega
      have hkk : k + 1 + r.length = l.length := by simp only [List.length_cons] at hk; omega
      have hac2 : acc.length + 1 + r.length ≤ 300 := by simp only [List.length_cons] at hac; omega
      have hn4 : n ≤ 300 := by omega
      have hkb : k ≤ 200 := by have := HN.out; omega
      have hA := HA.out (by omega)
      subst hA
      have Hact := Lib.hid hact
      obtain ⟨ha0, ha8⟩ := hact s (List.mem_cons_self ..)
      obtain ⟨act, name, level, msg, args, attrs⟩ := s
      obtain ⟨h0, h1, h2', h3, ⟨Aa, la, ca, h4, hca, ha⟩, ⟨At, lt, ct, h5, hat⟩, hr⟩ := hrs
      have hK := keeps_of_below hB
      simp only at h0 h1 h2' h3 h4 h5 ha hat ha0 ha8
      have h0 := hK.cell h0
      have h1 := hK.cell h1
      have h2' := hK.cell h2'
      have h3 := hK.cell h3
      have h4 := hK.cell h4
      have h5 := hK.cell h5
      have HR := Lib.hid hr
      have Hat := Lib.hid (And.intro hca (And.intro ha hat))
      have hbb : b < wr.heap.size := World.block_lt_of_cell? wr _ h0
      have HB := Lib.hid hB
      clear hk hk' hr hK hat ha hca hown hx hval hn hac hB hact
      have hcase : act = 0 ∨ act = 1 ∨ act = 2 ∨ act = 3 ∨ act = 4 ∨ act = 5 ∨ act = 6 ∨ act = 7 ∨ act = 8 := by omega
      clear ha0 ha8
      rcases hcase with rfl | rfl | rfl | rfl | rfl | rfl | rfl | rfl | rfl
      · have hab : above least (⟨0, name, level, msg, args, attrs⟩ :: r) = ⟨0, name, level, msg, args, attrs⟩ :: above least r := by rw [above, if_pos (Or.inl (by simp))]
        have HAB := Lib.hid (Hval.out.trans (congrArg (acc ++ ·) hab))
        clear hab
        go_wp2_with (at_builtin; refine wpList_append_lies _ rfl (.tmp 46) (.tmp 48) 57 rfl w.heap.size 73 i0 _ 6 96 Tryz.underlying57 hi hz0 hz1 hz2 rfl (by decide) _ n xs rfl ((HO.out.alloc _).alloc _) ⟨_, 0, none⟩ 1 1 [.int .i64 0, .string name, .int .i64 level, .string msg, .slice Aa la ca, .slice At lt ct] rfl rfl (by intro j u hj; exact cells_new _ _ _ _ (by simp) j u hj) (by intro u hu; simp at hu; (repeat' (rcases hu with rfl | hu)); all_goals (first | rfl | (subst hu; rfl))) (by decide) (by unfold maxLen; omega) (by omega) (by simp; omega) _ rfl ?_; intro g5 cap5 w5 hown5 hgrow5 hat5 hlt5; have HO5 := Lib.hid hown5; have HG5 := Lib.hid hgrow5; clear hown5 hgrow5 hat5 hlt5)
        have hB5 : Below w.heap.size w w5 := Below.grown ((HB.out.alloc (by omega) _).alloc (by simp; omega) _) HG5.out (by simp; omega) (fun g hg => (HLO.out g hg).1)
        refine ⟨⟨k + 1, r, acc ++ [⟨0, name, level, msg, args, attrs⟩], n + 1, _, hkk, by push_cast; rfl, by rw [HAB.out, List.append_assoc]; rfl, HO5.out, RStX.app _ _ _ _ HX.out ⟨Aa, la, ca, At, lt, ct, [], rfl, Hat.out.1, Hat.out.2.1, Hat.out.2.2, rfl⟩, ?_, fun x hx => Hact.out x (List.mem_cons_of_mem _ hx), by simp only [List.length_append, List.length_cons, List.length_nil]; omega, hB5⟩, ?_⟩
        · have := HR.out; rwa [show o + k * 6 + 6 = o + (k + 1) * 6 by omega] at this
        · simp only [intOf]; omega
      · have hab : above least (⟨1, name, level, msg, args, attrs⟩ :: r) = ⟨1, name, level, msg, args, attrs⟩ :: above least r := by rw [above, if_pos (Or.inl (by simp))]
        have HAB := Lib.hid (Hval.out.trans (congrArg (acc ++ ·) hab))
        clear hab
        go_wp2_with (at_builtin; refine wpList_append_lies _ rfl (.tmp 46) (.tmp 48) 57 rfl w.heap.size 73 i0 _ 6 96 Tryz.underlying57 hi hz0 hz1 hz2 rfl (by decide) _ n xs rfl ((HO.out.alloc _).alloc _) ⟨_, 0, none⟩ 1 1 [.int .i64 1, .string name, .int .i64 level, .string msg, .slice Aa la ca, .slice At lt ct] rfl rfl (by intro j u hj; exact cells_new _ _ _ _ (by simp) j u hj) (by intro u hu; simp at hu; (repeat' (rcases hu with rfl | hu)); all_goals (first | rfl | (subst hu; rfl))) (by decide) (by unfold maxLen; omega) (by omega) (by simp; omega) _ rfl ?_; intro g5 cap5 w5 hown5 hgrow5 hat5 hlt5; have HO5 := Lib.hid hown5; have HG5 := Lib.hid hgrow5; clear hown5 hgrow5 hat5 hlt5)
        have hB5 : Below w.heap.size w w5 := Below.grown ((HB.out.alloc (by omega) _).alloc (by simp; omega) _) HG5.out (by simp; omega) (fun g hg => (HLO.out g hg).1)
        refine ⟨⟨k + 1, r, acc ++ [⟨1, name, level, msg, args, attrs⟩], n + 1, _, hkk, by push_cast; rfl, by rw [HAB.out, List.append_assoc]; rfl, HO5.out, RStX.app _ _ _ _ HX.out ⟨Aa, la, ca, At, lt, ct, [], rfl, Hat.out.1, Hat.out.2.1, Hat.out.2.2, rfl⟩, ?_, fun x hx => Hact.out x (List.mem_cons_of_mem _ hx), by simp only [List.length_append, List.length_cons, List.length_nil]; omega, hB5⟩, ?_⟩
        · have := HR.out; rwa [show o + k * 6 + 6 = o + (k + 1) * 6 by omega] at this
        · simp only [intOf]; omega
      · by_cases hle : least ≤ level
        · have hab : above least (⟨2, name, level, msg, args, attrs⟩ :: r) = ⟨2, name, level, msg, args, attrs⟩ :: above least r := by rw [above, if_pos (Or.inr ⟨by simp, by simp only [lvB]; first | (rw [if_neg (by decide)]; exact hle) | (rw [if_pos (by decide)]; omega)⟩)]
          have HAB := Lib.hid (Hval.out.trans (congrArg (acc ++ ·) hab))
          clear hab
          go_wp2_with (at_builtin; refine wpList_append_lies _ rfl (.tmp 46) (.tmp 48) 57 rfl w.heap.size 73 i0 _ 6 96 Tryz.underlying57 hi hz0 hz1 hz2 rfl (by decide) _ n xs rfl ((HO.out.alloc _).alloc _) ⟨_, 0, none⟩ 1 1 [.int .i64 2, .string name, .int .i64 level, .string msg, .slice Aa la ca, .slice At lt ct] rfl rfl (by intro j u hj; exact cells_new _ _ _ _ (by simp) j u hj) (by intro u hu; simp at hu; (repeat' (rcases hu with rfl | hu)); all_goals (first | rfl | (subst hu; rfl))) (by decide) (by unfold maxLen; omega) (by omega) (by simp; omega) _ rfl ?_; intro g5 cap5 w5 hown5 hgrow5 hat5 hlt5; have HO5 := Lib.hid hown5; have HG5 := Lib.hid hgrow5; clear hown5 hgrow5 hat5 hlt5)
          have hB5 : Below w.heap.size w w5 := Below.grown ((HB.out.alloc (by omega) _).alloc (by simp; omega) _) HG5.out (by simp; omega) (fun g hg => (HLO.out g hg).1)
          refine ⟨⟨k + 1, r, acc ++ [⟨2, name, level, msg, args, attrs⟩], n + 1, _, hkk, by push_cast; rfl, by rw [HAB.out, List.append_assoc]; rfl, HO5.out, RStX.app _ _ _ _ HX.out ⟨Aa, la, ca, At, lt, ct, [], rfl, Hat.out.1, Hat.out.2.1, Hat.out.2.2, rfl⟩, ?_, fun x hx => Hact.out x (List.mem_cons_of_mem _ hx), by simp only [List.length_append, List.length_cons, List.length_nil]; omega, hB5⟩, ?_⟩
          · have := HR.out; rwa [show o + k * 6 + 6 = o + (k + 1) * 6 by omega] at this
          · simp only [intOf]; omega
        · have hab : above least (⟨2, name, level, msg, args, attrs⟩ :: r) = above least r := by rw [above, if_neg (by rintro (h | h); exact absurd h (by simp); exact hle (by have h := h.2; simp only [lvB] at h; first | (rw [if_neg (by decide)] at h; exact h) | (rw [if_pos (by decide)] at h; omega)))]
          have HAB := Lib.hid (Hval.out.trans (congrArg (acc ++ ·) hab))
          clear hab
          go_wp2
          refine ⟨⟨k + 1, r, acc, n, xs, hkk, by push_cast; rfl, HAB.out, HO.out.alloc _, HX.out, ?_, fun x hx => Hact.out x (List.mem_cons_of_mem _ hx), by omega, HB.out.alloc (by omega) _⟩, ?_⟩
          · have := HR.out; rwa [show o + k * 6 + 6 = o + (k + 1) * 6 by omega] at this
          · simp only [intOf]; omega
      · by_cases hle : least ≤ level
        · have hab : above least (⟨3, name, level, msg, args, attrs⟩ :: r) = ⟨3, name, level, msg, args, attrs⟩ :: above least r := by rw [above, if_pos (Or.inr ⟨by simp, by simp only [lvB]; first | (rw [if_neg (by decide)]; exact hle) | (rw [if_pos (by decide)]; omega)⟩)]
          have HAB := Lib.hid (Hval.out.trans (congrArg (acc ++ ·) hab))
          clear hab
          go_wp2_with (at_builtin; refine wpList_append_lies _ rfl (.tmp 46) (.tmp 48) 57 rfl w.heap.size 73 i0 _ 6 96 Tryz.underlying57 hi hz0 hz1 hz2 rfl (by decide) _ n xs rfl ((HO.out.alloc _).alloc _) ⟨_, 0, none⟩ 1 1 [.int .i64 3, .string name, .int .i64 level, .string msg, .slice Aa la ca, .slice At lt ct] rfl rfl (by intro j u hj; exact cells_new _ _ _ _ (by simp) j u hj) (by intro u hu; simp at hu; (repeat' (rcases hu with rfl | hu)); all_goals (first | rfl | (subst hu; rfl))) (by decide) (by unfold maxLen; omega) (by omega) (by simp; omega) _ rfl ?_; intro g5 cap5 w5 hown5 hgrow5 hat5 hlt5; have HO5 := Lib.hid hown5; have HG5 := Lib.hid hgrow5; clear hown5 hgrow5 hat5 hlt5)
          have hB5 : Below w.heap.size w w5 := Below.grown ((HB.out.alloc (by omega) _).alloc (by simp; omega) _) HG5.out (by simp; omega) (fun g hg => (HLO.out g hg).1)
          refine ⟨⟨k + 1, r, acc ++ [⟨3, name, level, msg, args, attrs⟩], n + 1, _, hkk, by push_cast; rfl, by rw [HAB.out, List.append_assoc]; rfl, HO5.out, RStX.app _ _ _ _ HX.out ⟨Aa, la, ca, At, lt, ct, [], rfl, Hat.out.1, Hat.out.2.1, Hat.out.2.2, rfl⟩, ?_, fun x hx => Hact.out x (List.mem_cons_of_mem _ hx), by simp only [List.length_append, List.length_cons, List.length_nil]; omega, hB5⟩, ?_⟩
          · have := HR.out; rwa [show o + k * 6 + 6 = o + (k + 1) * 6 by omega] at this
          · simp only [intOf]; omega
        · have hab : above least (⟨3, name, level, msg, args, attrs⟩ :: r) = above least r := by rw [above, if_neg (by rintro (h | h); exact absurd h (by simp); exact hle (by have h := h.2; simp only [lvB] at h; first | (rw [if_neg (by decide)] at h; exact h) | (rw [if_pos (by decide)] at h; omega)))]
          have HAB := Lib.hid (Hval.out.trans (congrArg (acc ++ ·) hab))
          clear hab
          go_wp2
          refine ⟨⟨k + 1, r, acc, n, xs, hkk, by push_cast; rfl, HAB.out, HO.out.alloc _, HX.out, ?_, fun x hx => Hact.out x (List.mem_cons_of_mem _ hx), by omega, HB.out.alloc (by omega) _⟩, ?_⟩
          · have := HR.out; rwa [show o + k * 6 + 6 = o + (k + 1) * 6 by omega] at this
          · simp only [intOf]; omega
      · by_cases hle : least ≤ (-4)
        · have hab : above least (⟨4, name, level, msg, args, attrs⟩ :: r) = ⟨4, name, level, msg, args, attrs⟩ :: above least r := by rw [above, if_pos (Or.inr ⟨by simp, by simp only [lvB]; first | (rw [if_neg (by decide)]; exact hle) | (rw [if_pos (by decide)]; omega)⟩)]
          have HAB := Lib.hid (Hval.out.trans (congrArg (acc ++ ·) hab))
          clear hab
          go_wp2_with (at_builtin; refine wpList_append_lies _ rfl (.tmp 46) (.tmp 48) 57 rfl w.heap.size 73 i0 _ 6 96 Tryz.underlying57 hi hz0 hz1 hz2 rfl (by decide) _ n xs rfl ((HO.out.alloc _).alloc _) ⟨_, 0, none⟩ 1 1 [.int .i64 4, .string name, .int .i64 level, .string msg, .slice Aa la ca, .slice At lt ct] rfl rfl (by intro j u hj; exact cells_new _ _ _ _ (by simp) j u hj) (by intro u hu; simp at hu; (repeat' (rcases hu with rfl | hu)); all_goals (first | rfl | (subst hu; rfl))) (by decide) (by unfold maxLen; omega) (by omega) (by simp; omega) _ rfl ?_; intro g5 cap5 w5 hown5 hgrow5 hat5 hlt5; have HO5 := Lib.hid hown5; have HG5 := Lib.hid hgrow5; clear hown5 hgrow5 hat5 hlt5)
          have hB5 : Below w.heap.size w w5 := Below.grown ((HB.out.alloc (by omega) _).alloc (by simp; omega) _) HG5.out (by simp; omega) (fun g hg => (HLO.out g hg).1)
          refine ⟨⟨k + 1, r, acc ++ [⟨4, name, level, msg, args, attrs⟩], n + 1, _, hkk, by push_cast; rfl, by rw [HAB.out, List.append_assoc]; rfl, HO5.out, RStX.app _ _ _ _ HX.out ⟨Aa, la, ca, At, lt, ct, [], rfl, Hat.out.1, Hat.out.2.1, Hat.out.2.2, rfl⟩, ?_, fun x hx => Hact.out x (List.mem_cons_of_mem _ hx), by simp only [List.length_append, List.length_cons, List.length_nil]; omega, hB5⟩, ?_⟩
          · have := HR.out; rwa [show o + k * 6 + 6 = o + (k + 1) * 6 by omega] at this
          · simp only [intOf]; omega
        · have hab : above least (⟨4, name, level, msg, args, attrs⟩ :: r) = above least r := by rw [above, if_neg (by rintro (h | h); exact absurd h (by simp); exact hle (by have h := h.2; simp only [lvB] at h; first | (rw [if_neg (by decide)] at h; exact h) | (rw [if_pos (by decide)] at h; omega)))]
          have HAB := Lib.hid (Hval.out.trans (congrArg (acc ++ ·) hab))
          clear hab
          go_wp2
          refine ⟨⟨k + 1, r, acc, n, xs, hkk, by push_cast; rfl, HAB.out, HO.out.alloc _, HX.out, ?_, fun x hx => Hact.out x (List.mem_cons_of_mem _ hx), by omega, HB.out.alloc (by omega) _⟩, ?_⟩
          · have := HR.out; rwa [show o + k * 6 + 6 = o + (k + 1) * 6 by omega] at this
          · simp only [intOf]; omega
      · by_cases hle : least ≤ 0
        · have hab : above least (⟨5, name, level, msg, args, attrs⟩ :: r) = ⟨5, name, level, msg, args, attrs⟩ :: above least r := by rw [above, if_pos (Or.inr ⟨by simp, by simp only [lvB]; first | (rw [if_neg (by decide)]; exact hle) | (rw [if_pos (by decide)]; omega)⟩)]
          have HAB := Lib.hid (Hval.out.trans (congrArg (acc ++ ·) hab))
          clear hab
          go_wp2_with (at_builtin; refine wpList_append_lies _ rfl (.tmp 46) (.tmp 48) 57 rfl w.heap.size 73 i0 _ 6 96 Tryz.underlying57 hi hz0 hz1 hz2 rfl (by decide) _ n xs rfl ((HO.out.alloc _).alloc _) ⟨_, 0, none⟩ 1 1 [.int .i64 5, .string name, .int .i64 level, .string msg, .slice Aa la ca, .slice At lt ct] rfl rfl (by intro j u hj; exact cells_new _ _ _ _ (by simp) j u hj) (by intro u hu; simp at hu; (repeat' (rcases hu with rfl | hu)); all_goals (first | rfl | (subst hu; rfl))) (by decide) (by unfold maxLen; omega) (by omega) (by simp; omega) _ rfl ?_; intro g5 cap5 w5 hown5 hgrow5 hat5 hlt5; have HO5 := Lib.hid hown5; have HG5 := Lib.hid hgrow5; clear hown5 hgrow5 hat5 hlt5)
          have hB5 : Below w.heap.size w w5 := Below.grown ((HB.out.alloc (by omega) _).alloc (by simp; omega) _) HG5.out (by simp; omega) (fun g hg => (HLO.out g hg).1)
          refine ⟨⟨k + 1, r, acc ++ [⟨5, name, level, msg, args, attrs⟩], n + 1, _, hkk, by push_cast; rfl, by rw [HAB.out, List.append_assoc]; rfl, HO5.out, RStX.app _ _ _ _ HX.out ⟨Aa, la, ca, At, lt, ct, [], rfl, Hat.out.1, Hat.out.2.1, Hat.out.2.2, rfl⟩, ?_, fun x hx => Hact.out x (List.mem_cons_of_mem _ hx), by simp only [List.length_append, List.length_cons, List.length_nil]; omega, hB5⟩, ?_⟩
          · have := HR.out; rwa [show o + k * 6 + 6 = o + (k + 1) * 6 by omega] at this
          · simp only [intOf]; omega
        · have hab : above least (⟨5, name, level, msg, args, attrs⟩ :: r) = above least r := by rw [above, if_neg (by rintro (h | h); exact absurd h (by simp); exact hle (by have h := h.2; simp only [lvB] at h; first | (rw [if_neg (by decide)] at h; exact h) | (rw [if_pos (by decide)] at h; omega)))]
          have HAB := Lib.hid (Hval.out.trans (congrArg (acc ++ ·) hab))
          clear hab
          go_wp2
          refine ⟨⟨k + 1, r, acc, n, xs, hkk, by push_cast; rfl, HAB.out, HO.out.alloc _, HX.out, ?_, fun x hx => Hact.out x (List.mem_cons_of_mem _ hx), by omega, HB.out.alloc (by omega) _⟩, ?_⟩
          · have := HR.out; rwa [show o + k * 6 + 6 = o + (k + 1) * 6 by omega] at this
          · simp only [intOf]; omega
      · by_cases hle : least ≤ 4
        · have hab : above least (⟨6, name, level, msg, args, attrs⟩ :: r) = ⟨6, name, level, msg, args, attrs⟩ :: above least r := by rw [above, if_pos (Or.inr ⟨by simp, by simp only [lvB]; first | (rw [if_neg (by decide)]; exact hle) | (rw [if_pos (by decide)]; omega)⟩)]
          have HAB := Lib.hid (Hval.out.trans (congrArg (acc ++ ·) hab))
          clear hab
          go_wp2_with (at_builtin; refine wpList_append_lies _ rfl (.tmp 46) (.tmp 48) 57 rfl w.heap.size 73 i0 _ 6 96 Tryz.underlying57 hi hz0 hz1 hz2 rfl (by decide) _ n xs rfl ((HO.out.alloc _).alloc _) ⟨_, 0, none⟩ 1 1 [.int .i64 6, .string name, .int .i64 level, .string msg, .slice Aa la ca, .slice At lt ct] rfl rfl (by intro j u hj; exact cells_new _ _ _ _ (by simp) j u hj) (by intro u hu; simp at hu; (repeat' (rcases hu with rfl | hu)); all_goals (first | rfl | (subst hu; rfl))) (by decide) (by unfold maxLen; omega) (by omega) (by simp; omega) _ rfl ?_; intro g5 cap5 w5 hown5 hgrow5 hat5 hlt5; have HO5 := Lib.hid hown5; have HG5 := Lib.hid hgrow5; clear hown5 hgrow5 hat5 hlt5)
          have hB5 : Below w.heap.size w w5 := Below.grown ((HB.out.alloc (by omega) _).alloc (by simp; omega) _) HG5.out (by simp; omega) (fun g hg => (HLO.out g hg).1)
          refine ⟨⟨k + 1, r, acc ++ [⟨6, name, level, msg, args, attrs⟩], n + 1, _, hkk, by push_cast; rfl, by rw [HAB.out, List.append_assoc]; rfl, HO5.out, RStX.app _ _ _ _ HX.out ⟨Aa, la, ca, At, lt, ct, [], rfl, Hat.out.1, Hat.out.2.1, Hat.out.2.2, rfl⟩, ?_, fun x hx => Hact.out x (List.mem_cons_of_mem _ hx), by simp only [List.length_append, List.length_cons, List.length_nil]; omega, hB5⟩, ?_⟩
          · have := HR.out; rwa [show o + k * 6 + 6 = o + (k + 1) * 6 by omega] at this
          · simp only [intOf]; omega
        · have hab : above least (⟨6, name, level, msg, args, attrs⟩ :: r) = above least r := by rw [above, if_neg (by rintro (h | h); exact absurd h (by simp); exact hle (by have h := h.2; simp only [lvB] at h; first | (rw [if_neg (by decide)] at h; exact h) | (rw [if_pos (by decide)] at h; omega)))]
          have HAB := Lib.hid (Hval.out.trans (congrArg (acc ++ ·) hab))
          clear hab
          go_wp2
          refine ⟨⟨k + 1, r, acc, n, xs, hkk, by push_cast; rfl, HAB.out, HO.out.alloc _, HX.out, ?_, fun x hx => Hact.out x (List.mem_cons_of_mem _ hx), by omega, HB.out.alloc (by omega) _⟩, ?_⟩
          · have := HR.out; rwa [show o + k * 6 + 6 = o + (k + 1) * 6 by omega] at this
          · simp only [intOf]; omega
      · by_cases hle : least ≤ 8
        · have hab : above least (⟨7, name, level, msg, args, attrs⟩ :: r) = ⟨7, name, level, msg, args, attrs⟩ :: above least r := by rw [above, if_pos (Or.inr ⟨by simp, by simp only [lvB]; first | (rw [if_neg (by decide)]; exact hle) | (rw [if_pos (by decide)]; omega)⟩)]
          have HAB := Lib.hid (Hval.out.trans (congrArg (acc ++ ·) hab))
          clear hab
          go_wp2_with (at_builtin; refine wpList_append_lies _ rfl (.tmp 46) (.tmp 48) 57 rfl w.heap.size 73 i0 _ 6 96 Tryz.underlying57 hi hz0 hz1 hz2 rfl (by decide) _ n xs rfl ((HO.out.alloc _).alloc _) ⟨_, 0, none⟩ 1 1 [.int .i64 7, .string name, .int .i64 level, .string msg, .slice Aa la ca, .slice At lt ct] rfl rfl (by intro j u hj; exact cells_new _ _ _ _ (by simp) j u hj) (by intro u hu; simp at hu; (repeat' (rcases hu with rfl | hu)); all_goals (first | rfl | (subst hu; rfl))) (by decide) (by unfold maxLen; omega) (by omega) (by simp; omega) _ rfl ?_; intro g5 cap5 w5 hown5 hgrow5 hat5 hlt5; have HO5 := Lib.hid hown5; have HG5 := Lib.hid hgrow5; clear hown5 hgrow5 hat5 hlt5)
          have hB5 : Below w.heap.size w w5 := Below.grown ((HB.out.alloc (by omega) _).alloc (by simp; omega) _) HG5.out (by simp; omega) (fun g hg => (HLO.out g hg).1)
          refine ⟨⟨k + 1, r, acc ++ [⟨7, name, level, msg, args, attrs⟩], n + 1, _, hkk, by push_cast; rfl, by rw [HAB.out, List.append_assoc]; rfl, HO5.out, RStX.app _ _ _ _ HX.out ⟨Aa, la, ca, At, lt, ct, [], rfl, Hat.out.1, Hat.out.2.1, Hat.out.2.2, rfl⟩, ?_, fun x hx => Hact.out x (List.mem_cons_of_mem _ hx), by simp only [List.length_append, List.length_cons, List.length_nil]; omega, hB5⟩, ?_⟩
          · have := HR.out; rwa [show o + k * 6 + 6 = o + (k + 1) * 6 by omega] at this
          · simp only [intOf]; omega
        · have hab : above least (⟨7, name, level, msg, args, attrs⟩ :: r) = above least r := by rw [above, if_neg (by rintro (h | h); exact absurd h (by simp); exact hle (by have h := h.2; simp only [lvB] at h; first | (rw [if_neg (by decide)] at h; exact h) | (rw [if_pos (by decide)] at h; omega)))]
          have HAB := Lib.hid (Hval.out.trans (congrArg (acc ++ ·) hab))
          clear hab
          go_wp2
          refine ⟨⟨k + 1, r, acc, n, xs, hkk, by push_cast; rfl, HAB.out, HO.out.alloc _, HX.out, ?_, fun x hx => Hact.out x (List.mem_cons_of_mem _ hx), by omega, HB.out.alloc (by omega) _⟩, ?_⟩
          · have := HR.out; rwa [show o + k * 6 + 6 = o + (k + 1) * 6 by omega] at this
          · simp only [intOf]; omega
      · have hab : above least (⟨8, name, level, msg, args, attrs⟩ :: r) = above least r := by rw [above, if_neg (by rintro (h | h); exact absurd h (by simp); exact h.1 rfl)]
        have HAB := Lib.hid (Hval.out.trans (congrArg (acc ++ ·) hab))
        clear hab
        go_wp2
        refine ⟨⟨k + 1, r, acc, n, xs, hkk, by push_cast; rfl, HAB.out, HO.out.alloc _, HX.out, ?_, fun x hx => Hact.out x (List.mem_cons_of_mem _ hx), by omega, HB.out.alloc (by omega) _⟩, ?_⟩
        · have := HR.out; rwa [show o + k * 6 + 6 = o + (k + 1) * 6 by omega] at this
        · simp only [intOf]; omega

section
variable (least : Int) (w : World) (A : Option Addr) (len cap : Nat)
set_option maxRecDepth 100000 in
set_option maxHeartbeats 400000 in
theorem lawLgB_no1 (h2 : (2147483647 : Int) < (len : Int)) : Calls Tryz.prog 12 #[.int .i64 least, .slice A len cap] w (YesEnd w) := by
  unfold YesEnd
  go_enter Tryz.func12, Tryz.ntmps12
  go_wp2
  go_ret
  exact ⟨rfl, Below.refl _ _⟩

set_option maxRecDepth 100000 in
set_option maxHeartbeats 400000 in
theorem lawLgB_no2 (h2 : ¬ (2147483647 : Int) < (len : Int)) (cF : ∀ wx, Keeps w wx → Calls Tryz.prog 33 #[.slice A len cap] wx (BoolEnd false wx)) : Calls Tryz.prog 12 #[.int .i64 least, .slice A len cap] w (YesEnd w) := by
  unfold YesEnd
  have CF := Lib.hid cF
  clear cF
  go_enter Tryz.func12, Tryz.ntmps12
  go_wp2_with (go_at_call 33; (with_reducible refine (CF.out _ (keeps_of_below (by repeat' (first | with_reducible assumption | with_reducible exact Below.refl _ _ | with_reducible refine Below.setCell ?_ ?_ _ | with_reducible refine Below.alloc ?_ ?_ _ | with_reducible refine Below.drew ?_ | with_reducible refine below_drewN ?_ _ | omega | (simp; done) | (simp; omega))))).mono ?_); rintro e w2 ⟨rfl, hb2⟩; have hB2 := keeps_below (show Below w.heap.size w _ from (by repeat' (first | with_reducible assumption | with_reducible exact Below.refl _ _ | with_reducible refine Below.setCell ?_ ?_ _ | with_reducible refine Below.alloc ?_ ?_ _ | with_reducible refine Below.drew ?_ | with_reducible refine below_drewN ?_ _ | omega | (simp; done) | (simp; omega)))) hb2)
  go_ret
  exact ⟨rfl, hB2⟩
end

theorem rows_ok {P : GStep → Prop} {l : List GStep} (h : ∀ s ∈ l, P s) (h2 : P stepEnd) : ∀ s ∈ l ++ [stepEnd], P s := fun s hs => by
  rcases List.mem_append.1 hs with hs | hs
  · exact h s hs
  · rw [List.mem_singleton.1 hs]; exact h2

/-- laws.FnLgBelow. -/
theorem lawLgB_any (least : Int) (l : List GStep) (w : World) (A : Option Addr) (len cap : Nat) (hw : stepsWf l) (hl : RStepS w l A len) :
    Calls Tryz.prog 12 #[.int .i64 least, .slice A len cap] w (YesEnd w) := by
  have hll := hl.1
  by_cases h2 : (2147483647 : Int) < (len : Int)
  · exact lawLgB_no1 least w A len cap h2
  by_cases h4 : (len : Int) ≤ 200
  · have cF := fun wx (hk : Keeps w wx) => lgFine_yes l wx A len cap hw (hl.keep hk) h4
    by_cases h3 : 0 ≤ lgLeft l 65536
    · rw [decide_eq_true h3] at cF
      have hf := steps_fine l 65536 (by omega) hw h3
      have hact : ∀ s ∈ l, 0 ≤ s.act ∧ s.act ≤ 8 := fun s hs => ⟨(hf s hs).2.1.1, (hf s hs).2.1.2.1⟩
      have hfa : ∀ s ∈ above least l, playOk s ∧ madeOk s ∧ stepOk s := fun s hs => hf s (above_mem least l s hs)
      have hal := above_len least l
      obtain ⟨z1, z2⟩ := madeEvs_size least (l ++ [stepEnd]) (rows_ok (fun s hs => (hf s hs).1) stepEnd_ok.1)
      obtain ⟨z3, z4⟩ := madeEvs_size least (above least l ++ [stepEnd]) (rows_ok (fun s hs => (hfa s hs).1) stepEnd_ok.1)
      simp only [List.length_append, List.length_singleton] at z2 z4
      obtain ⟨s1, s2⟩ := below_same least l (fun s hs => (hf s hs).2.2) hact
      have tl := too_len (madeEvs least (l ++ [stepEnd]))
      exact lawLgB_core least l w A len cap hl h2 (by omega) hact cF
        (fun wx A' l' c' h => logger_any least _ wx A' l' c' h (rows_ok (fun s hs => (hf s hs).2.1) stepEnd_ok.2.1) (by simp; omega))
        (fun wx A' l' c' h => logger_any least _ wx A' l' c' h (rows_ok (fun s hs => (hfa s hs).2.1) stepEnd_ok.2.1) (by simp; omega))
        (fun wx P P' A1 A2 l1 c1 l2 c2 h1 h2 => lgSame_any _ _ wx A1 A2 l1 c1 l2 c2 s1 h1 h2 (fun e he => z1 e (too_mem _ e he)) (by omega))
        (by omega) (by omega) s2
    · rw [decide_eq_false h3] at cF
      exact lawLgB_no2 least w A len cap h2 cF
  · exact lawLgB_no2 least w A len cap h2 (fun wx _ => lgFine_no l wx A len cap h4)

end Go.Proofs.YtihhgnbgejjijaaGreatDoor.Va
