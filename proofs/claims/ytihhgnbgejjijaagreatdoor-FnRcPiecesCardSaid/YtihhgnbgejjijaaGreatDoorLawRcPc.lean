/- The statement FnRcPieces: the walk. -/
import Derived.Test.YtihhgnbgejjijaaGreatDoorImplArgs
import Derived.Test.YtihhgnbgejjijaaGreatDoorArgY
import Derived.Test.YtihhgnbgejjijaaGreatDoorRcWhole
import Derived.Test.YtihhgnbgejjijaaGreatDoorRcFine
import Derived.Test.YtihhgnbgejjijaaGreatDoorBlk
import Derived.Deep.Cut
import Derived.Deep.DeepCutAuto
namespace Go.Proofs.YtihhgnbgejjijaaGreatDoor.Va
set_option linter.unusedVariables false
set_option linter.unusedSimpArgs false
open Go Go.RowKit

theorem val_at {g g1 n c k : Nat} {v : Value} (hv : v.ownBlock = some g) (h : v.ownBlock = (Value.slice (some ⟨g1, 0, none⟩) n c).ownBlock ∨ v.ownBlock = some k) : g = g1 ∨ g = k := by
  rcases h with h | h
  · rw [hv] at h
    have h : some g = some g1 := h
    injection h with h
    exact .inl h
  · rw [hv] at h
    injection h with h
    exact .inr h
def pcEnd : GArg := ⟨0, ⟨#[101, 110, 100]⟩, .mk 1 1 ByteArray.empty .zero .nil⟩
theorem pcEnd_cells (w : World) : RArgX w [pcEnd] [.int .i64 0, .string ⟨#[101, 110, 100]⟩, .int .i64 1, .int .u64 1, .string ⟨#[]⟩, .int .i64 0, .int .i64 0, .int .i64 0, .slice none 0 0] := ⟨none, 0, 0, [], rfl, RS.nil_ _ _, rfl⟩
theorem pcEnd_one : ∀ u ∈ ([.int .i64 0, .string ⟨#[101, 110, 100]⟩, .int .i64 1, .int .u64 1, .string ⟨#[]⟩, .int .i64 0, .int .i64 0, .int .i64 0, .slice none 0 0] : List Value), u.oneCell' = true := by
  intro u hu
  simp only [List.mem_cons, List.not_mem_nil, or_false] at hu
  rcases hu with rfl | rfl | rfl | rfl | rfl | rfl | rfl | rfl | rfl <;> rfl
theorem good_one : good (.mk 1 1 ByteArray.empty .zero .nil) := by
  unfold good goodAll; exact ⟨by omega, by omega, fun h => by omega, fun h => by omega, fun h => by omega, fun h => by omega, trivial⟩
theorem wf_one : (GVal.mk 1 1 ByteArray.empty .zero .nil).wf := by
  unfold GVal.wf GAttrs.wf; exact ⟨by omega, by omega, Nat.zero_le _, by decide, by decide, by decide, by simp [GAttrs.len], trivial⟩
theorem nine_blk {X : World} {B : Nat} {x0 x1 x2 x3 x4 x5 x6 x7 x8 : Value} {t : TypeId} {fr : Nat × Nat} (h : X.heap[B]? = some (.cells #[x0, x1, x2, x3, x4, x5, x6, x7, x8] t fr)) :
    X.cell? ⟨B, 0, none⟩ = some x0 ∧ X.cell? ⟨B, 1, none⟩ = some x1 ∧ X.cell? ⟨B, 2, none⟩ = some x2 ∧ X.cell? ⟨B, 3, none⟩ = some x3 ∧ X.cell? ⟨B, 4, none⟩ = some x4 ∧ X.cell? ⟨B, 5, none⟩ = some x5 ∧ X.cell? ⟨B, 6, none⟩ = some x6 ∧ X.cell? ⟨B, 7, none⟩ = some x7 ∧ X.cell? ⟨B, 8, none⟩ = some x8 :=
  ⟨cell_of_row X B 0 _ t fr h, cell_of_row X B 1 _ t fr h, cell_of_row X B 2 _ t fr h, cell_of_row X B 3 _ t fr h, cell_of_row X B 4 _ t fr h, cell_of_row X B 5 _ t fr h, cell_of_row X B 6 _ t fr h, cell_of_row X B 7 _ t fr h, cell_of_row X B 8 _ t fr h⟩
/-- A slice of arguments that was made. -/
def PcOne (l : List GArg) (w : World) (x : Value) (wx : World) : Prop := ∃ A len cap, x = .slice A len cap ∧ len ≤ cap ∧ RArgS wx l A len ∧ Below w.heap.size w wx
/-- A slice of attributes that was made. -/
def PcTwo (l : GAttrs) (w W : World) (x : Value) (wx : World) : Prop := ∃ A len cap, x = .slice A len cap ∧ RS wx l A len ∧ Below W.heap.size W wx ∧ Below w.heap.size w wx
/-- What the end is, wherever a world has gone. -/
def PcBox (B : Nat) (wx : World) : Prop := wx.heap[B]? = some (.cells #[.int .i64 0, .string ⟨#[101, 110, 100]⟩, .int .i64 1, .int .u64 1, .string ⟨#[]⟩, .int .i64 0, .int .i64 0, .int .i64 0, .slice none 0 0] 37 (0, 0))

section
variable (a b : List GArg) (w : World) (A A' : Option Addr) (la ca lb cb : Nat)
set_option maxRecDepth 100000 in
set_option maxHeartbeats 400000 in
theorem lawRcPc_no1 (h2 : (2147483647 : Int) < (la : Int) ∨ (2147483647 : Int) < (lb : Int)) : Calls Tryz.prog 5 #[.slice A la ca, .slice A' lb cb] w (YesEnd w) := by
  unfold YesEnd
  by_cases h1 : (2147483647 : Int) < (la : Int)
  · clear h2
    go_enter Tryz.func5, Tryz.ntmps5
    go_wp2
    go_ret
    exact ⟨rfl, Below.refl _ _⟩
  · have h2 : (2147483647 : Int) < (lb : Int) := h2.resolve_left h1
    go_enter Tryz.func5, Tryz.ntmps5
    go_wp2
    go_ret
    exact ⟨rfl, Below.refl _ _⟩

set_option maxRecDepth 100000 in
set_option maxHeartbeats 400000 in
theorem lawRcPc_no2 (h1 : ¬ (2147483647 : Int) < (la : Int)) (h2 : ¬ (2147483647 : Int) < (lb : Int)) (fa fb fw : Bool) (hf : (fa && fb && fw) = false)
    (cA : ∀ wx, Keeps w wx → Calls Tryz.prog 15 #[.slice A la ca] wx (BoolEnd fa wx)) (cB : ∀ wx, Keeps w wx → Calls Tryz.prog 15 #[.slice A' lb cb] wx (BoolEnd fb wx)) (cW : ∀ wx, Keeps w wx → Calls Tryz.prog 21 #[.slice A la ca] wx (BoolEnd fw wx)) :
    Calls Tryz.prog 5 #[.slice A la ca, .slice A' lb cb] w (YesEnd w) := by
  unfold YesEnd
  have CA := Lib.hid cA
  have CB := Lib.hid cB
  have CW := Lib.hid cW
  clear cA cB cW
  cases fa with
  | false =>
    clear hf
    go_enter Tryz.func5, Tryz.ntmps5
    go_wp2_with (go_at_call 15; (with_reducible refine (CA.out _ (keeps_of_below (by repeat' (first | with_reducible assumption | with_reducible exact Below.refl _ _ | with_reducible refine Below.setCell ?_ ?_ _ | with_reducible refine Below.alloc ?_ ?_ _ | with_reducible refine Below.drew ?_ | with_reducible refine below_drewN ?_ _ | omega | (simp; done) | (simp; omega))))).mono ?_); rintro e w2 ⟨rfl, hb2⟩; have hB2 := keeps_below (show Below w.heap.size w _ from (by repeat' (first | with_reducible assumption | with_reducible exact Below.refl _ _ | with_reducible refine Below.setCell ?_ ?_ _ | with_reducible refine Below.alloc ?_ ?_ _ | with_reducible refine Below.drew ?_ | with_reducible refine below_drewN ?_ _ | omega | (simp; done) | (simp; omega)))) hb2)
    go_ret
    exact ⟨rfl, hB2⟩
  | true =>
    cases fb with
    | false =>
      clear hf
      go_enter Tryz.func5, Tryz.ntmps5
      go_wp2_with (first
        | (go_at_call 15; (with_reducible refine (CB.out _ (keeps_of_below hB2)).mono ?_); rintro e w3 ⟨rfl, hb3⟩; have hB3 := keeps_below hB2 hb3)
        | (go_at_call 15; (with_reducible refine (CA.out _ (keeps_of_below (by repeat' (first | with_reducible assumption | with_reducible exact Below.refl _ _ | with_reducible refine Below.setCell ?_ ?_ _ | with_reducible refine Below.alloc ?_ ?_ _ | with_reducible refine Below.drew ?_ | with_reducible refine below_drewN ?_ _ | omega | (simp; done) | (simp; omega))))).mono ?_); rintro e w2 ⟨rfl, hb2⟩; have hB2 := keeps_below (show Below w.heap.size w _ from (by repeat' (first | with_reducible assumption | with_reducible exact Below.refl _ _ | with_reducible refine Below.setCell ?_ ?_ _ | with_reducible refine Below.alloc ?_ ?_ _ | with_reducible refine Below.drew ?_ | with_reducible refine below_drewN ?_ _ | omega | (simp; done) | (simp; omega)))) hb2))
      go_ret
      exact ⟨rfl, hB3⟩
    | true =>
      have hf : fw = false := by simpa using hf
      subst hf
      go_enter Tryz.func5, Tryz.ntmps5
      go_wp2_with (first
        | (go_at_call 15; (with_reducible refine (CB.out _ (keeps_of_below hB2)).mono ?_); rintro e w3 ⟨rfl, hb3⟩; have hB3 := keeps_below hB2 hb3)
        | (go_at_call 15; (with_reducible refine (CA.out _ (keeps_of_below (by repeat' (first | with_reducible assumption | with_reducible exact Below.refl _ _ | with_reducible refine Below.setCell ?_ ?_ _ | with_reducible refine Below.alloc ?_ ?_ _ | with_reducible refine Below.drew ?_ | with_reducible refine below_drewN ?_ _ | omega | (simp; done) | (simp; omega))))).mono ?_); rintro e w2 ⟨rfl, hb2⟩; have hB2 := keeps_below (show Below w.heap.size w _ from (by repeat' (first | with_reducible assumption | with_reducible exact Below.refl _ _ | with_reducible refine Below.setCell ?_ ?_ _ | with_reducible refine Below.alloc ?_ ?_ _ | with_reducible refine Below.drew ?_ | with_reducible refine below_drewN ?_ _ | omega | (simp; done) | (simp; omega)))) hb2)
        | (go_at_call 21; (with_reducible refine (CW.out _ (keeps_of_below hB3)).mono ?_); rintro e w4 ⟨rfl, hb4⟩; have hB4 := keeps_below hB3 hb4))
      go_ret
      exact ⟨rfl, hB4⟩

set_option maxRecDepth 100000 in
set_option maxHeartbeats 4000000 in
theorem lawRcPc_core (h1 : ¬ (2147483647 : Int) < (la : Int)) (h2 : ¬ (2147483647 : Int) < (lb : Int)) (ha : RArgS w a A la) (hb : RArgS w b A' lb) (hla : la ≤ 65536) (hlb : lb ≤ 65536) (hca : la ≤ ca)
    (cA : ∀ wx, Keeps w wx → Calls Tryz.prog 15 #[.slice A la ca] wx (BoolEnd true wx)) (cB : ∀ wx, Keeps w wx → Calls Tryz.prog 15 #[.slice A' lb cb] wx (BoolEnd true wx)) (cW : ∀ wx, Keeps w wx → Calls Tryz.prog 21 #[.slice A la ca] wx (BoolEnd true wx))
    (fo : Bool) (cO : ∀ wx A1 l1 c1, RArgS wx (a ++ (b ++ [pcEnd])) A1 l1 → Calls Tryz.prog 15 #[.slice A1 l1 c1] wx (BoolEnd fo wx))
    (mo ma mb : GAttrs) (hmo : mo = ma.append mb) (hpos : fo = true → 0 < mo.len) (hma : ma.len ≤ 299999) (hmb : mb.len ≤ 299999)
    (gO : fo = true → ∀ wx A1 l1 c1, l1 ≤ c1 → RArgS wx (a ++ (b ++ [pcEnd])) A1 l1 → Calls Tryz.prog 19 #[.slice A1 l1 c1] wx (ListPost mo wx))
    (gA : ∀ wx, RArgS wx a A la → Calls Tryz.prog 19 #[.slice A la ca] wx (ListPost ma wx))
    (gB : fo = true → ∀ wx A1 l1 c1, l1 ≤ c1 → RArgS wx (b ++ [pcEnd]) A1 l1 → Calls Tryz.prog 19 #[.slice A1 l1 c1] wx (ListPost mb wx))
    (cS : fo = true → ∀ wx A1 A2 l1 c1 l2 c2, RS wx mo A1 l1 → RS wx mo A2 l2 → Calls Tryz.prog 18 #[.slice A1 l1 c1, .slice A2 l2 c2] wx (YesEnd wx)) :
    Calls Tryz.prog 5 #[.slice A la ca, .slice A' lb cb] w (YesEnd w) := by
  obtain ⟨i0, hi, hz0, hz1, hz2⟩ := info_parts infoArg
  obtain ⟨j0, ji, jz0, jz1, jz2⟩ := info_parts infoAttr
  obtain ⟨Q, hQ⟩ : ∃ Q : Ending → World → Prop, Q = YesEnd w := ⟨_, rfl⟩
  rw [← hQ]
  have HQ := Lib.hid hQ
  obtain ⟨xs0, hx0, hs0, hc0⟩ := src_args ha
  obtain ⟨ys0, hy0, ht0, hd0⟩ := src_args hb
  have HX0 := Lib.hid hx0
  have HS0 := Lib.hid hs0
  have HC0 := Lib.hid hc0
  have HY0 := Lib.hid hy0
  have HT0 := Lib.hid ht0
  have HD0 := Lib.hid hd0
  have HA := Lib.hid ha
  have CA := Lib.hid cA
  have CB := Lib.hid cB
  have CW := Lib.hid cW
  have CO := Lib.hid cO
  have GO := Lib.hid gO
  have GA := Lib.hid gA
  have GB := Lib.hid gB
  have CS := Lib.hid cS
  have HM := Lib.hid (And.intro hmo (And.intro hpos (And.intro hma hmb)))
  clear hQ cA cB cW cO gO gA gB cS hmo hpos hma hmb hx0 hs0 hc0 hy0 ht0 hd0 ha hb
  unfold BoolEnd at CA CB CW CO
  unfold ListPost at GO GA GB
  unfold YesEnd at CS
  go_enter Tryz.func5, Tryz.ntmps5
  go_upto_region 6 with (first
    | (go_at_call 15; (with_reducible refine (CB.out _ (keeps_of_below HBa.out)).mono ?_); rintro e wb ⟨rfl, hbb⟩; have HBb := Lib.hid (keeps_below HBa.out hbb); clear hbb)
    | (go_at_call 15; (with_reducible refine (CA.out _ (keeps_of_below (by repeat' (first | with_reducible assumption | with_reducible exact Below.refl _ _ | with_reducible refine Below.setCell ?_ ?_ _ | with_reducible refine Below.alloc ?_ ?_ _ | with_reducible refine Below.drew ?_ | with_reducible refine below_drewN ?_ _ | omega | (simp; done) | (simp; omega))))).mono ?_); rintro e wa ⟨rfl, hba⟩; have HBa := Lib.hid (keeps_below (show Below w.heap.size w _ from (by repeat' (first | with_reducible assumption | with_reducible exact Below.refl _ _ | with_reducible refine Below.setCell ?_ ?_ _ | with_reducible refine Below.alloc ?_ ?_ _ | with_reducible refine Below.drew ?_ | with_reducible refine below_drewN ?_ _ | omega | (simp; done) | (simp; omega)))) hba); clear hba)
    | (go_at_call 21; (with_reducible refine (CW.out _ (keeps_of_below HBb.out)).mono ?_); rintro e wq ⟨rfl, hbq⟩; have HBq := Lib.hid (keeps_below HBb.out hbq); have hsq0 := HBq.out.size; clear hbq))
  go_cut [6] (fun x wx => PcOne (a ++ (b ++ [pcEnd])) w x wx ∧ PcBox wq.heap.size wx)
  case first =>
    go_region_held3 (fun wx => wx.cell? ⟨wq.heap.size, 0, none⟩ = some (.int .i64 0) ∧ wx.cell? ⟨wq.heap.size, 1, none⟩ = some (.string ⟨#[101, 110, 100]⟩) ∧ wx.cell? ⟨wq.heap.size, 2, none⟩ = some (.int .i64 1) ∧ wx.cell? ⟨wq.heap.size, 3, none⟩ = some (.int .u64 1) ∧ wx.cell? ⟨wq.heap.size, 4, none⟩ = some (.string ⟨#[]⟩) ∧ wx.cell? ⟨wq.heap.size, 5, none⟩ = some (.int .i64 0) ∧ wx.cell? ⟨wq.heap.size, 6, none⟩ = some (.int .i64 0) ∧ wx.cell? ⟨wq.heap.size, 7, none⟩ = some (.int .i64 0) ∧ wx.cell? ⟨wq.heap.size, 8, none⟩ = some (.slice none 0 0)) (exact nine_blk (t := 37) (fr := (0, 0)) (by repeat' (first | (with_reducible rfl) | ((with_reducible refine new_blk ?_); (first | assumption | omega | (simp; done) | (simp; omega) | (simp only [World.size_alloc, World.size_drew] at *; omega))) | ((with_reducible refine (old_blk ?_).trans ?_); (· (first | assumption | omega | (simp; done) | (simp; omega) | (simp only [World.size_alloc, World.size_drew] at *; omega)))) | (with_reducible refine (drew_blk _ _).trans ?_) | ((with_reducible refine (HG4.out.block _ ?_ ?_).trans ?_); (· (first | assumption | omega | (simp; done) | (simp; omega) | (simp only [World.size_alloc, World.size_drew] at *; omega))); (· (first | (intro hne; (simp [Value.ownBlock] at hne; done)) | (intro hne; simp [Value.ownBlock] at hne; (first | omega | (subst hne; omega))) | ((with_reducible refine ne_at HAT1.out ?_ ?_); (· (first | assumption | omega | (simp; done) | (simp; omega) | (simp only [World.size_alloc, World.size_drew] at *; omega))); (· (first | assumption | omega | (simp; done) | (simp; omega) | (simp only [World.size_alloc, World.size_drew] at *; omega))))))) | ((with_reducible refine (HG3.out.block _ ?_ ?_).trans ?_); (· (first | assumption | omega | (simp; done) | (simp; omega) | (simp only [World.size_alloc, World.size_drew] at *; omega))); (· (first | (intro hne; (simp [Value.ownBlock] at hne; done)) | (intro hne; simp [Value.ownBlock] at hne; (first | omega | (subst hne; omega))) | ((with_reducible refine ne_at HAT2.out ?_ ?_); (· (first | assumption | omega | (simp; done) | (simp; omega) | (simp only [World.size_alloc, World.size_drew] at *; omega))); (· (first | assumption | omega | (simp; done) | (simp; omega) | (simp only [World.size_alloc, World.size_drew] at *; omega))))))) | ((with_reducible refine (HG2.out.block _ ?_ ?_).trans ?_); (· (first | assumption | omega | (simp; done) | (simp; omega) | (simp only [World.size_alloc, World.size_drew] at *; omega))); (· (first | (intro hne; (simp [Value.ownBlock] at hne; done)) | (intro hne; simp [Value.ownBlock] at hne; (first | omega | (subst hne; omega)))))) | ((with_reducible refine (HG1.out.block _ ?_ ?_).trans ?_); (· (first | assumption | omega | (simp; done) | (simp; omega) | (simp only [World.size_alloc, World.size_drew] at *; omega))); (· (first | (intro hne; (simp [Value.ownBlock] at hne; done)) | (intro hne; simp [Value.ownBlock] at hne; (first | omega | (subst hne; omega)))))) | (with_reducible assumption) | fail))) (first
      | (refine step_append_src _ rfl (.tmp 33) (.tmp 34) 22 rfl w.heap.size 37 i0 _ 9 104 Tryz.underlying22 hi hz0 hz1 hz2 rfl (by decide) (.slice (some ⟨_, 0, none⟩) 0 0) 0 [] rfl (own_blk0 (by first | omega | (simp; done) | (simp; omega)) (by repeat' (first | (with_reducible rfl) | ((with_reducible refine new_blk ?_); (first | assumption | omega | (simp; done) | (simp; omega) | (simp only [World.size_alloc, World.size_drew] at *; omega))) | ((with_reducible refine (old_blk ?_).trans ?_); (· (first | assumption | omega | (simp; done) | (simp; omega) | (simp only [World.size_alloc, World.size_drew] at *; omega)))) | (with_reducible refine (drew_blk _ _).trans ?_) | (with_reducible assumption) | fail))) A la ca xs0 rfl (HS0.out.keep (keeps_of_below (by have hbx := HBq.out; exact (by repeat' (first | with_reducible assumption | with_reducible exact Below.refl _ _ | with_reducible refine Below.setCell ?_ ?_ _ | with_reducible refine Below.alloc ?_ ?_ _ | with_reducible refine Below.drew ?_ | with_reducible refine below_drewN ?_ _ | omega | (simp; done) | (simp; omega)))))) HC0.out (by unfold maxLen; omega) (by omega) (by first | omega | (simp; done) | (simp; omega)) ?_; intro v1 w1 hown1 hgrow1 hat1; rw [Nat.zero_add, List.nil_append] at hown1; have HB1 := Lib.hid (show Below w.heap.size w w1 from Below.grown (by have hbx := HBq.out; exact (by repeat' (first | with_reducible assumption | with_reducible exact Below.refl _ _ | with_reducible refine Below.setCell ?_ ?_ _ | with_reducible refine Below.alloc ?_ ?_ _ | with_reducible refine Below.drew ?_ | with_reducible refine below_drewN ?_ _ | omega | (simp; done) | (simp; omega)))) hgrow1 (by first | omega | (simp; done) | (simp; omega)) (own_ge (by first | omega | (simp; done) | (simp; omega)))); have HO1 := Lib.hid hown1; have HLO1 := Lib.hid hown1.lt; have HG1 := Lib.hid hgrow1; have HAT1 := Lib.hid hat1; have hs1 := hgrow1.size; (try simp only [World.size_alloc, World.size_drew] at hs1); clear hown1 hgrow1 hat1)
      | (refine step_append_src _ rfl (.tmp 36) (.tmp 37) 22 rfl w.heap.size 37 i0 _ 9 104 Tryz.underlying22 hi hz0 hz1 hz2 rfl (by decide) (.slice (some ⟨_, 0, none⟩) 0 0) 0 [] rfl (own_blk0 (by first | omega | (simp; done) | (simp; omega)) (by repeat' (first | (with_reducible rfl) | ((with_reducible refine new_blk ?_); (first | assumption | omega | (simp; done) | (simp; omega) | (simp only [World.size_alloc, World.size_drew] at *; omega))) | ((with_reducible refine (old_blk ?_).trans ?_); (· (first | assumption | omega | (simp; done) | (simp; omega) | (simp only [World.size_alloc, World.size_drew] at *; omega)))) | (with_reducible refine (drew_blk _ _).trans ?_) | ((with_reducible refine (HG1.out.block _ ?_ ?_).trans ?_); (· (first | assumption | omega | (simp; done) | (simp; omega) | (simp only [World.size_alloc, World.size_drew] at *; omega))); (· (first | (intro hne; (simp [Value.ownBlock] at hne; done)) | (intro hne; simp [Value.ownBlock] at hne; (first | omega | (subst hne; omega)))))) | (with_reducible assumption) | fail))) A' lb cb ys0 rfl (HT0.out.keep (keeps_of_below (by have hbx := HB1.out; exact (by repeat' (first | with_reducible assumption | with_reducible exact Below.refl _ _ | with_reducible refine Below.setCell ?_ ?_ _ | with_reducible refine Below.alloc ?_ ?_ _ | with_reducible refine Below.drew ?_ | with_reducible refine below_drewN ?_ _ | omega | (simp; done) | (simp; omega)))))) HD0.out (by unfold maxLen; omega) (by omega) (by first | omega | (simp; done) | (simp; omega)) ?_; intro v2 w2 hown2 hgrow2 hat2; rw [Nat.zero_add, List.nil_append] at hown2; have HB2 := Lib.hid (show Below w.heap.size w w2 from Below.grown (by have hbx := HB1.out; exact (by repeat' (first | with_reducible assumption | with_reducible exact Below.refl _ _ | with_reducible refine Below.setCell ?_ ?_ _ | with_reducible refine Below.alloc ?_ ?_ _ | with_reducible refine Below.drew ?_ | with_reducible refine below_drewN ?_ _ | omega | (simp; done) | (simp; omega)))) hgrow2 (by first | omega | (simp; done) | (simp; omega)) (own_ge (by first | omega | (simp; done) | (simp; omega)))); have HO2 := Lib.hid hown2; have HLO2 := Lib.hid hown2.lt; have HG2 := Lib.hid hgrow2; have HAT2 := Lib.hid hat2; have hs2 := hgrow2.size; (try simp only [World.size_alloc, World.size_drew] at hs2); clear hown2 hgrow2 hat2)
      | (refine step_append_lies _ rfl (.tmp 38) (.tmp 40) 22 rfl w.heap.size 37 i0 _ 9 104 Tryz.underlying22 hi hz0 hz1 hz2 rfl (by decide) v2 lb ys0 rfl (by first | exact HO2.out | exact HO2.out.alloc _ | exact (HO2.out.alloc _).alloc _) ⟨_, 0, none⟩ 1 1 [.int .i64 0, .string ⟨#[101, 110, 100]⟩, .int .i64 1, .int .u64 1, .string ⟨#[]⟩, .int .i64 0, .int .i64 0, .int .i64 0, .slice none 0 0] rfl rfl (by intro j u hj; refine World.news_of_block (t := 37) (fr := (0, 0)) (cs := #[.int .i64 0, .string ⟨#[101, 110, 100]⟩, .int .i64 1, .int .u64 1, .string ⟨#[]⟩, .int .i64 0, .int .i64 0, .int .i64 0, .slice none 0 0]) ?_ j u hj; exact (by repeat' (first | (with_reducible rfl) | ((with_reducible refine new_blk ?_); (first | assumption | omega | (simp; done) | (simp; omega) | (simp only [World.size_alloc, World.size_drew] at *; omega))) | ((with_reducible refine (old_blk ?_).trans ?_); (· (first | assumption | omega | (simp; done) | (simp; omega) | (simp only [World.size_alloc, World.size_drew] at *; omega)))) | (with_reducible refine (drew_blk _ _).trans ?_) | ((with_reducible refine (HG2.out.block _ ?_ ?_).trans ?_); (· (first | assumption | omega | (simp; done) | (simp; omega) | (simp only [World.size_alloc, World.size_drew] at *; omega))); (· (first | (intro hne; (simp [Value.ownBlock] at hne; done)) | (intro hne; simp [Value.ownBlock] at hne; (first | omega | (subst hne; omega)))))) | ((with_reducible refine (HG1.out.block _ ?_ ?_).trans ?_); (· (first | assumption | omega | (simp; done) | (simp; omega) | (simp only [World.size_alloc, World.size_drew] at *; omega))); (· (first | (intro hne; (simp [Value.ownBlock] at hne; done)) | (intro hne; simp [Value.ownBlock] at hne; (first | omega | (subst hne; omega)))))) | (with_reducible assumption) | fail))) (by intro u hu; simp at hu; (repeat' (rcases hu with rfl | hu)); all_goals (first | rfl | (subst hu; rfl))) (by decide) (by unfold maxLen; omega) (by omega) (by first | omega | (simp; done) | (simp; omega)) _ rfl ?_; intro g3 cap3 w3 hown3 hgrow3 hat3 hlt3; have hs3 := hgrow3.size; (try simp only [World.size_alloc, World.size_drew] at hs3); have HB3 := Lib.hid (show Below w.heap.size w w3 from Below.grown (by have hbx := HB2.out; exact (by repeat' (first | with_reducible assumption | with_reducible exact Below.refl _ _ | with_reducible refine Below.setCell ?_ ?_ _ | with_reducible refine Below.alloc ?_ ?_ _ | with_reducible refine Below.drew ?_ | with_reducible refine below_drewN ?_ _ | omega | (simp; done) | (simp; omega)))) hgrow3 (by first | omega | (simp; done) | (simp; omega)) (fun g hg => (HLO2.out g hg).1)); have HG3 := Lib.hid hgrow3; have HO3 := Lib.hid hown3; clear hown3 hgrow3 hat3 hlt3)
      | (refine step_append_src _ rfl (.tmp 35) (.tmp 41) 22 rfl w.heap.size 37 i0 _ 9 104 Tryz.underlying22 hi hz0 hz1 hz2 rfl (by decide) v1 la xs0 rfl (own_to HO1.out (fun g hg hlt => (by have hgv := val_at hg HAT1.out; (try simp only [World.size_alloc, World.size_drew] at hgv); repeat' (first | (with_reducible rfl) | ((with_reducible refine new_blk ?_); (first | assumption | omega | (simp; done) | (simp; omega) | (simp only [World.size_alloc, World.size_drew] at *; omega))) | ((with_reducible refine (old_blk ?_).trans ?_); (· (first | assumption | omega | (simp; done) | (simp; omega) | (simp only [World.size_alloc, World.size_drew] at *; omega)))) | (with_reducible refine (drew_blk _ _).trans ?_) | ((with_reducible refine (HG3.out.block _ ?_ ?_).trans ?_); (· (first | assumption | omega | (simp; done) | (simp; omega) | (simp only [World.size_alloc, World.size_drew] at *; omega))); (· (first | (intro hne; (simp [Value.ownBlock] at hne; done)) | (intro hne; simp [Value.ownBlock] at hne; (first | omega | (subst hne; omega))) | ((with_reducible refine ne_at HAT2.out ?_ ?_); (· (first | assumption | omega | (simp; done) | (simp; omega) | (simp only [World.size_alloc, World.size_drew] at *; omega))); (· (first | assumption | omega | (simp; done) | (simp; omega) | (simp only [World.size_alloc, World.size_drew] at *; omega))))))) | ((with_reducible refine (HG2.out.block _ ?_ ?_).trans ?_); (· (first | assumption | omega | (simp; done) | (simp; omega) | (simp only [World.size_alloc, World.size_drew] at *; omega))); (· (first | (intro hne; (simp [Value.ownBlock] at hne; done)) | (intro hne; simp [Value.ownBlock] at hne; (first | omega | (subst hne; omega)))))) | (with_reducible assumption) | fail)))) (some ⟨g3, 0, none⟩) (lb + 1) cap3 (ys0 ++ [.int .i64 0, .string ⟨#[101, 110, 100]⟩, .int .i64 1, .int .u64 1, .string ⟨#[]⟩, .int .i64 0, .int .i64 0, .int .i64 0, .slice none 0 0]) rfl ⟨HO3.out.1, fun _ => ⟨g3, 0, rfl, fun j u hj => by have h3 := HO3.out.cells (g := g3) rfl j u hj; rw [add_at] at h3; rw [Nat.zero_add]; exact h3⟩⟩ (by intro u hu; rcases List.mem_append.1 hu with hu | hu; exact HD0.out u hu; exact pcEnd_one u hu) (by unfold maxLen; omega) (by omega) (by first | omega | (simp; done) | (simp; omega)) ?_; intro v4 w4 hown4 hgrow4 hat4; have hB4 : Below w.heap.size w w4 := Below.grown (by have hbx := HB3.out; exact (by repeat' (first | with_reducible assumption | with_reducible exact Below.refl _ _ | with_reducible refine Below.setCell ?_ ?_ _ | with_reducible refine Below.alloc ?_ ?_ _ | with_reducible refine Below.drew ?_ | with_reducible refine below_drewN ?_ _ | omega | (simp; done) | (simp; omega)))) hgrow4 (by first | omega | (simp; done) | (simp; omega)) (fun g hg => (HLO1.out g hg).1); have hs4 := hgrow4.size; (try simp only [World.size_alloc, World.size_drew] at hs4); obtain ⟨A6, c6, e6, hle6, hr6⟩ := rargs_of_owns hown4 (RArgX.app _ _ _ _ HX0.out (RArgX.app _ _ _ _ HY0.out (pcEnd_cells w))) (keeps_of_below hB4); have HF := Lib.hid (show PcOne (a ++ (b ++ [pcEnd])) w v4 w4 from ⟨A6, _, c6, e6, hle6, hr6, hB4⟩); have HG4 := Lib.hid hgrow4; clear hown4 hgrow4 hat4 hB4 hle6 hr6 e6))
    all_goals
      go_wp2_with fail
      go_meet
      case rel => exact ⟨HF.out, (by unfold PcBox; exact (by repeat' (first | (with_reducible rfl) | ((with_reducible refine new_blk ?_); (first | assumption | omega | (simp; done) | (simp; omega) | (simp only [World.size_alloc, World.size_drew] at *; omega))) | ((with_reducible refine (old_blk ?_).trans ?_); (· (first | assumption | omega | (simp; done) | (simp; omega) | (simp only [World.size_alloc, World.size_drew] at *; omega)))) | (with_reducible refine (drew_blk _ _).trans ?_) | ((with_reducible refine (HG4.out.block _ ?_ ?_).trans ?_); (· (first | assumption | omega | (simp; done) | (simp; omega) | (simp only [World.size_alloc, World.size_drew] at *; omega))); (· (first | (intro hne; (simp [Value.ownBlock] at hne; done)) | (intro hne; simp [Value.ownBlock] at hne; (first | omega | (subst hne; omega))) | ((with_reducible refine ne_at HAT1.out ?_ ?_); (· (first | assumption | omega | (simp; done) | (simp; omega) | (simp only [World.size_alloc, World.size_drew] at *; omega))); (· (first | assumption | omega | (simp; done) | (simp; omega) | (simp only [World.size_alloc, World.size_drew] at *; omega))))))) | ((with_reducible refine (HG3.out.block _ ?_ ?_).trans ?_); (· (first | assumption | omega | (simp; done) | (simp; omega) | (simp only [World.size_alloc, World.size_drew] at *; omega))); (· (first | (intro hne; (simp [Value.ownBlock] at hne; done)) | (intro hne; simp [Value.ownBlock] at hne; (first | omega | (subst hne; omega))) | ((with_reducible refine ne_at HAT2.out ?_ ?_); (· (first | assumption | omega | (simp; done) | (simp; omega) | (simp only [World.size_alloc, World.size_drew] at *; omega))); (· (first | assumption | omega | (simp; done) | (simp; omega) | (simp only [World.size_alloc, World.size_drew] at *; omega))))))) | ((with_reducible refine (HG2.out.block _ ?_ ?_).trans ?_); (· (first | assumption | omega | (simp; done) | (simp; omega) | (simp only [World.size_alloc, World.size_drew] at *; omega))); (· (first | (intro hne; (simp [Value.ownBlock] at hne; done)) | (intro hne; simp [Value.ownBlock] at hne; (first | omega | (subst hne; omega)))))) | ((with_reducible refine (HG1.out.block _ ?_ ?_).trans ?_); (· (first | assumption | omega | (simp; done) | (simp; omega) | (simp only [World.size_alloc, World.size_drew] at *; omega))); (· (first | (intro hne; (simp [Value.ownBlock] at hne; done)) | (intro hne; simp [Value.ownBlock] at hne; (first | omega | (subst hne; omega)))))) | (with_reducible assumption) | fail)))⟩
  case rest =>
    obtain ⟨⟨A6, l6, c6, rfl, hle6, hr6, hB6⟩, hbox⟩ := hcut
    have HR6 := Lib.hid hr6
    have HB6 := Lib.hid hB6
    have HX6 := Lib.hid hbox
    have HL6 := Lib.hid hle6
    have hsq : wq.heap.size < wc.heap.size := (Array.getElem?_eq_some_iff.1 hbox).1
    clear hr6 hB6 hbox hle6
    cases fo with
    | false =>
      go_wp2_with (go_at_call 15; (with_reducible refine (CO.out _ A6 l6 c6 HR6.out).mono ?_); rintro e w2 ⟨rfl, hb2⟩; have HB2 := Lib.hid (keeps_below HB6.out hb2); clear hb2)
      rw [HQ.out]
      exact ⟨rfl, HB2.out⟩
    | true =>
      have GO' := Lib.hid (GO.out rfl)
      have CS' := Lib.hid (CS.out rfl)
      have GB' := Lib.hid (GB.out rfl)
      have HM' := Lib.hid (And.intro HM.out.1 (And.intro (HM.out.2.1 rfl) HM.out.2.2))
      clear GO CS GB HM
      go_upto_region 10 with (first
        | (go_at_call 15; (with_reducible refine (CO.out _ A6 l6 c6 HR6.out).mono ?_); rintro e w2 ⟨rfl, hb2⟩; have HB2 := Lib.hid (keeps_below HB6.out hb2); have HK2 := Lib.hid (keeps_of_below hb2); have hs2 := hb2.size; clear hb2)
        | (go_at_call 19; (with_reducible refine (GO'.out _ A6 l6 c6 HL6.out (HR6.out.keep HK2.out)).mono ?_); rintro e wm ⟨Am, lm, cm, rfl, hrm, hbm⟩; have HRm := Lib.hid hrm.rs; have HBm := Lib.hid (keeps_below HB2.out hbm); have HKm := Lib.hid (HK2.out.trans (keeps_of_below hbm)); have hsm := hbm.size; have hlm : (0 : Int) < (lm : Int) := (by have q1 := hrm.1; have q2 := HM'.out.2.1; omega); clear hrm hbm)
        | (go_at_call 19; (with_reducible refine (GA.out _ (HA.out.keep (keeps_of_below HBm.out))).mono ?_); rintro e wo ⟨Ao, lo, co, rfl, hro, hbo⟩; have HRo := Lib.hid hro.rs; have HBo := Lib.hid (keeps_below HBm.out hbo); have HKo := Lib.hid (keeps_of_below hbo); have hso := hbo.size; have hss := HBo.out.size; have HKx := Lib.hid (HKm.out.trans (keeps_of_below hbo)); clear hro hbo))
      have HXo := Lib.hid (show wo.heap[wq.heap.size]? = _ from (HKx.out _ hsq).trans HX6.out)
      have hxo := HXo.out
      go_cut [9] (fun x wx => PcTwo mb wo wo x wx)
      case first =>
        go_region_held3 (fun wx => wx.cell? ⟨wq.heap.size, 0, none⟩ = some (.int .i64 0) ∧ wx.cell? ⟨wq.heap.size, 1, none⟩ = some (.string ⟨#[101, 110, 100]⟩) ∧ wx.cell? ⟨wq.heap.size, 2, none⟩ = some (.int .i64 1) ∧ wx.cell? ⟨wq.heap.size, 3, none⟩ = some (.int .u64 1) ∧ wx.cell? ⟨wq.heap.size, 4, none⟩ = some (.string ⟨#[]⟩) ∧ wx.cell? ⟨wq.heap.size, 5, none⟩ = some (.int .i64 0) ∧ wx.cell? ⟨wq.heap.size, 6, none⟩ = some (.int .i64 0) ∧ wx.cell? ⟨wq.heap.size, 7, none⟩ = some (.int .i64 0) ∧ wx.cell? ⟨wq.heap.size, 8, none⟩ = some (.slice none 0 0)) (exact nine_blk (t := 37) (fr := (0, 0)) (by repeat' (first | (with_reducible rfl) | ((with_reducible refine new_blk ?_); (first | assumption | omega | (simp; done) | (simp; omega) | (simp only [World.size_alloc, World.size_drew] at *; omega))) | ((with_reducible refine (old_blk ?_).trans ?_); (· (first | assumption | omega | (simp; done) | (simp; omega) | (simp only [World.size_alloc, World.size_drew] at *; omega)))) | (with_reducible refine (drew_blk _ _).trans ?_) | ((with_reducible refine (HG6.out.block _ ?_ ?_).trans ?_); (· (first | assumption | omega | (simp; done) | (simp; omega) | (simp only [World.size_alloc, World.size_drew] at *; omega))); (· (first | (intro hne; (simp [Value.ownBlock] at hne; done)) | (intro hne; simp [Value.ownBlock] at hne; (first | omega | (subst hne; omega))) | ((with_reducible refine ne_at HAT5.out ?_ ?_); (· (first | assumption | omega | (simp; done) | (simp; omega) | (simp only [World.size_alloc, World.size_drew] at *; omega))); (· (first | assumption | omega | (simp; done) | (simp; omega) | (simp only [World.size_alloc, World.size_drew] at *; omega))))))) | ((with_reducible refine (HG5.out.block _ ?_ ?_).trans ?_); (· (first | assumption | omega | (simp; done) | (simp; omega) | (simp only [World.size_alloc, World.size_drew] at *; omega))); (· (first | (intro hne; (simp [Value.ownBlock] at hne; done)) | (intro hne; simp [Value.ownBlock] at hne; (first | omega | (subst hne; omega)))))) | ((with_reducible refine (HB7.out.block _ ?_).trans ?_); (· (first | assumption | omega | (simp; done) | (simp; omega) | (simp only [World.size_alloc, World.size_drew] at *; omega)))) | (with_reducible assumption) | fail))) (first
          | (refine step_append_src _ rfl (.tmp 50) (.tmp 51) 22 rfl wo.heap.size 37 i0 _ 9 104 Tryz.underlying22 hi hz0 hz1 hz2 rfl (by decide) (.slice (some ⟨_, 0, none⟩) 0 0) 0 [] rfl (own_blk0 (by first | omega | (simp; done) | (simp; omega)) (by repeat' (first | (with_reducible rfl) | ((with_reducible refine new_blk ?_); (first | assumption | omega | (simp; done) | (simp; omega) | (simp only [World.size_alloc, World.size_drew] at *; omega))) | ((with_reducible refine (old_blk ?_).trans ?_); (· (first | assumption | omega | (simp; done) | (simp; omega) | (simp only [World.size_alloc, World.size_drew] at *; omega)))) | (with_reducible refine (drew_blk _ _).trans ?_) | (with_reducible assumption) | fail))) A' lb cb ys0 rfl (HT0.out.keep ((keeps_of_below HBo.out).trans (keeps_of_below (show Below wo.heap.size wo _ from (by repeat' (first | with_reducible assumption | with_reducible exact Below.refl _ _ | with_reducible refine Below.setCell ?_ ?_ _ | with_reducible refine Below.alloc ?_ ?_ _ | with_reducible refine Below.drew ?_ | with_reducible refine below_drewN ?_ _ | omega | (simp; done) | (simp; omega))))))) HD0.out (by unfold maxLen; omega) (by omega) (by first | omega | (simp; done) | (simp; omega)) ?_; intro v5 w5 hown5 hgrow5 hat5; rw [Nat.zero_add, List.nil_append] at hown5; have HB5 := Lib.hid (show Below wo.heap.size wo w5 from Below.grown (show Below wo.heap.size wo _ from (by repeat' (first | with_reducible assumption | with_reducible exact Below.refl _ _ | with_reducible refine Below.setCell ?_ ?_ _ | with_reducible refine Below.alloc ?_ ?_ _ | with_reducible refine Below.drew ?_ | with_reducible refine below_drewN ?_ _ | omega | (simp; done) | (simp; omega)))) hgrow5 (by first | omega | (simp; done) | (simp; omega)) (own_ge (by first | omega | (simp; done) | (simp; omega)))); have HO5 := Lib.hid hown5; have HLO5 := Lib.hid hown5.lt; have HG5 := Lib.hid hgrow5; have HAT5 := Lib.hid hat5; have hs5 := hgrow5.size; (try simp only [World.size_alloc, World.size_drew] at hs5); clear hown5 hgrow5 hat5)
          | (refine step_append_lies _ rfl (.tmp 52) (.tmp 54) 22 rfl wo.heap.size 37 i0 _ 9 104 Tryz.underlying22 hi hz0 hz1 hz2 rfl (by decide) v5 lb ys0 rfl (by first | exact HO5.out | exact HO5.out.alloc _ | exact (HO5.out.alloc _).alloc _) ⟨_, 0, none⟩ 1 1 [.int .i64 0, .string ⟨#[101, 110, 100]⟩, .int .i64 1, .int .u64 1, .string ⟨#[]⟩, .int .i64 0, .int .i64 0, .int .i64 0, .slice none 0 0] rfl rfl (by intro j u hj; refine World.news_of_block (t := 37) (fr := (0, 0)) (cs := #[.int .i64 0, .string ⟨#[101, 110, 100]⟩, .int .i64 1, .int .u64 1, .string ⟨#[]⟩, .int .i64 0, .int .i64 0, .int .i64 0, .slice none 0 0]) ?_ j u hj; exact (by repeat' (first | (with_reducible rfl) | ((with_reducible refine new_blk ?_); (first | assumption | omega | (simp; done) | (simp; omega) | (simp only [World.size_alloc, World.size_drew] at *; omega))) | ((with_reducible refine (old_blk ?_).trans ?_); (· (first | assumption | omega | (simp; done) | (simp; omega) | (simp only [World.size_alloc, World.size_drew] at *; omega)))) | (with_reducible refine (drew_blk _ _).trans ?_) | ((with_reducible refine (HG5.out.block _ ?_ ?_).trans ?_); (· (first | assumption | omega | (simp; done) | (simp; omega) | (simp only [World.size_alloc, World.size_drew] at *; omega))); (· (first | (intro hne; (simp [Value.ownBlock] at hne; done)) | (intro hne; simp [Value.ownBlock] at hne; (first | omega | (subst hne; omega)))))) | (with_reducible assumption) | fail))) (by intro u hu; simp at hu; (repeat' (rcases hu with rfl | hu)); all_goals (first | rfl | (subst hu; rfl))) (by decide) (by unfold maxLen; omega) (by omega) (by first | omega | (simp; done) | (simp; omega)) _ rfl ?_; intro g6 cap6 w6 hown6 hgrow6 hat6 hlt6; have hs6 := hgrow6.size; (try simp only [World.size_alloc, World.size_drew] at hs6); have HB6 := Lib.hid (show Below wo.heap.size wo w6 from Below.grown (by have hbx := HB5.out; exact (by repeat' (first | with_reducible assumption | with_reducible exact Below.refl _ _ | with_reducible refine Below.setCell ?_ ?_ _ | with_reducible refine Below.alloc ?_ ?_ _ | with_reducible refine Below.drew ?_ | with_reducible refine below_drewN ?_ _ | omega | (simp; done) | (simp; omega)))) hgrow6 (by first | omega | (simp; done) | (simp; omega)) (fun g hg => (HLO5.out g hg).1)); have HG6 := Lib.hid hgrow6; have HO6 := Lib.hid hown6; clear hown6 hgrow6 hat6 hlt6)
          | (go_at_call 19; have hB6 := HB6.out; obtain ⟨A6', c6', e6, hle6', hr6'⟩ := rargs_of_owns HO6.out (RArgX.app _ _ _ _ HY0.out (pcEnd_cells w)) ((keeps_of_below HBo.out).trans (keeps_of_below hB6)); cases e6; (with_reducible refine (GB'.out _ _ _ _ hle6' hr6').mono ?_); rintro e w7 ⟨A7, l7, c7, rfl, hr7, hb7⟩; have hs7 := hb7.size; have HB7 := Lib.hid hb7; have HF := Lib.hid (show PcTwo mb wo wo (.slice A7 l7 c7) w7 from ⟨A7, l7, c7, rfl, hr7.rs, keeps_below hB6 hb7, keeps_below hB6 hb7⟩); clear hr7 hb7 hB6 hle6' hr6'))
        all_goals
          go_wp2_with fail
          go_meet
          case rel => exact HF.out
      case rest =>
        obtain ⟨A7, l7, c7, rfl, hr7, hb7, _⟩ := hcut
        obtain ⟨zs, hz, hsz1, hsz2⟩ := src_attrs (HRo.out.keep (keeps_of_below hb7))
        obtain ⟨ts, ht, hst1, hst2⟩ := src_attrs hr7
        have HZ := Lib.hid hz
        have HZ1 := Lib.hid hsz1
        have HZ2 := Lib.hid hsz2
        have HTs := Lib.hid ht
        have HT1 := Lib.hid hst1
        have HT2 := Lib.hid hst2
        have hlo : lo ≤ 299999 := by have q1 := HRo.out.1; have q2 := HM'.out.2.2.1; omega
        have hl7 : l7 ≤ 299999 := by have q1 := hr7.1; have q2 := HM'.out.2.2.2; omega
        have HB7 := Lib.hid hb7
        have HK7 := Lib.hid (HKo.out.trans (keeps_of_below hb7))
        have hs7 := hb7.size
        clear hz hsz1 hsz2 ht hst1 hst2 hr7 hb7
        go_wp2_with (first
          | (at_builtin; refine wpList_append_src_g _ (by simp [Region.wanted, yielded]) (.tmp 62) (.tmp 63) 24 rfl wc.heap.size 35 j0 _ 8 96 Tryz.underlying24 ji jz0 jz1 jz2 rfl (by decide) (.slice (some ⟨_, 0, none⟩) 0 0) 0 [] rfl (own_lit (by first | omega | (simp; done) | (simp; omega)) rfl) Ao lo co zs rfl (HZ1.out.keep (keeps_of_below (by repeat' (first | with_reducible assumption | with_reducible exact Below.refl _ _ | with_reducible refine Below.setCell ?_ ?_ _ | with_reducible refine Below.alloc ?_ ?_ _ | with_reducible refine Below.drew ?_ | with_reducible refine below_drewN ?_ _ | omega | (simp; done) | (simp; omega))))) HZ2.out (by unfold maxLen; omega) (by omega) (by first | omega | (simp; done) | (simp; omega)) ?_; intro v8 w8 hown8 hgrow8 hat8; rw [Nat.zero_add, List.nil_append] at hown8; have HO8 := Lib.hid hown8; have HLO8 := Lib.hid hown8.lt; have hs8 := hgrow8.size; (try simp only [World.size_alloc, World.size_drew] at hs8); have HB8 := Lib.hid (show Below wc.heap.size wc w8 from Below.grown (by repeat' (first | with_reducible assumption | with_reducible exact Below.refl _ _ | with_reducible refine Below.setCell ?_ ?_ _ | with_reducible refine Below.alloc ?_ ?_ _ | with_reducible refine Below.drew ?_ | with_reducible refine below_drewN ?_ _ | omega | (simp; done) | (simp; omega))) hgrow8 (by first | omega | (simp; done) | (simp; omega)) (own_ge (by first | omega | (simp; done) | (simp; omega)))); clear hown8 hgrow8 hat8)
          | (at_builtin; refine wpList_append_src_g _ (by simp [Region.wanted, yielded]) (.tmp 64) (.tmp 65) 24 rfl wc.heap.size 35 j0 _ 8 96 Tryz.underlying24 ji jz0 jz1 jz2 rfl (by decide) v8 lo zs rfl HO8.out A7 l7 c7 ts rfl (HT1.out.keep (keeps_of_below HB8.out)) HT2.out (by unfold maxLen; omega) (by omega) (by first | omega | (simp; done) | (simp; omega)) ?_; intro v9 w9 hown9 hgrow9 hat9; have hB9 : Below wc.heap.size wc w9 := Below.grown HB8.out hgrow9 (by first | omega | (simp; done) | (simp; omega)) (fun g hg => (HLO8.out g hg).1); obtain ⟨A9, c9, e9, _, hr9⟩ := rattrs_of_owns hown9 (RAttX.app _ _ _ _ HZ.out HTs.out) (keeps_of_below hB9); subst e9; have HB9 := Lib.hid hB9; have hr9' : RS w9 mo A9 (lo + l7) := (by rw [HM'.out.1]; exact hr9); have HR9 := Lib.hid hr9'; clear hr9'; clear hown9 hgrow9 hat9 hB9 hr9)
          | (go_at_call 18; (with_reducible refine (CS'.out _ Am A9 lm cm (lo + l7) c9 (HRm.out.keep (HK7.out.trans (keeps_of_below HB9.out))) HR9.out).mono ?_); rintro e wz ⟨rfl, hbz⟩; have HBZ := Lib.hid (keeps_below (keeps_below (keeps_below HBo.out HB7.out) HB9.out) hbz); clear hbz))
        rw [HQ.out]
        exact ⟨rfl, HBZ.out⟩

end

theorem val_le : ∀ (l : List GArg) (x : GArg), x ∈ l → x.val.size ≤ argsSize l
  | [], _, h => by cases h
  | a :: r, x, h => by
    simp only [argsSize]
    rcases List.mem_cons.1 h with rfl | h
    · omega
    · have := val_le r x h; omega
/-- laws.FnRcPieces. -/
theorem lawRcPc_any (a b : List GArg) (w : World) (A A' : Option Addr) (la lb ca cb : Nat) (hna : a.length ≤ 140737488355328) (hnb : b.length ≤ 140737488355328) (hca : la ≤ ca) (hcb : lb ≤ cb) (wa : argsWf a) (wb : argsWf b) (ra : RArgS w a A la) (rb : RArgS w b A' lb) :
    Calls Tryz.prog 5 #[.slice A la ca, .slice A' lb cb] w (YesEnd w) := by
  have hla := ra.1
  have hlb := rb.1
  by_cases h1 : (2147483647 : Int) < (la : Int)
  · exact lawRcPc_no1 w A A' la ca lb cb (.inl h1)
  by_cases h2 : (2147483647 : Int) < (lb : Int)
  · exact lawRcPc_no1 w A A' la ca lb cb (.inr h2)
  have cA := fun wx (hk : Keeps w wx) => rcFine_any a wx A la ca wa (ra.keep hk) (by omega)
  have cB := fun wx (hk : Keeps w wx) => rcFine_any b wx A' lb cb wb (rb.keep hk) (by omega)
  have cW := fun wx (hk : Keeps w wx) => rcWhole_any a wx A la ca (ra.keep hk) (by omega)
  cases hf : (decide (0 ≤ rcLeft a false 65536) && decide (0 ≤ rcLeft b false 65536) && !waits false a) with
  | false => exact lawRcPc_no2 w A A' la ca lb cb h1 h2 _ _ _ hf cA cB cW
  | true =>
    simp only [Bool.and_eq_true, decide_eq_true_eq, Bool.not_eq_true'] at hf
    obtain ⟨⟨fa, fb⟩, fw⟩ := hf
    rw [decide_eq_true fa] at cA
    rw [decide_eq_true fb] at cB
    rw [fw] at cW
    obtain ⟨ga, pa, sa⟩ := rcLeft_good a false 65536 fa
    obtain ⟨gb, pb, sb⟩ := rcLeft_good b false 65536 fb
    have hal := args_len a
    have hbl := args_len b
    have we : argsWf [pcEnd] := ⟨⟨by simp [pcEnd], by unfold pcEnd; decide, wf_one⟩, trivial⟩
    have wo := argsWf_app a _ wa (argsWf_app b _ wb we)
    have za := argsTold_size a
    have zb := argsTold_size (b ++ [pcEnd])
    have ze : argsSize (b ++ [pcEnd]) ≤ 65600 := by rw [argsSize_app]; have : argsSize [pcEnd] ≤ 60 := by decide
                                                    omega
    have ka := len_le_size (argsTold a)
    have kb := len_le_size (argsTold (b ++ [pcEnd]))
    have hgood : decide (0 ≤ rcLeft (a ++ (b ++ [pcEnd])) false 65536) = true → argsGood (a ++ (b ++ [pcEnd])) ∧ pairsT false (a ++ (b ++ [pcEnd])) ∧ argsSize (a ++ (b ++ [pcEnd])) ≤ 65536 := fun h => by
      obtain ⟨g, p, s⟩ := rcLeft_good (a ++ (b ++ [pcEnd])) false 65536 (of_decide_eq_true h)
      exact ⟨g, p, by have := of_decide_eq_true h; omega⟩
    have hbw : ∀ h : decide (0 ≤ rcLeft (a ++ (b ++ [pcEnd])) false 65536) = true, pairsT false (b ++ [pcEnd]) := fun h => by
      have := pairsT_app a (b ++ [pcEnd]) false (hgood h).2.1
      rwa [fw] at this
    refine lawRcPc_core a b w A A' la ca lb cb h1 h2 ra rb (by omega) (by omega) hca cA cB cW _ (fun wx A1 l1 c1 h => rcFine_any _ wx A1 l1 c1 wo h (by have := h.1; simp only [List.length_append, List.length_singleton] at this; omega))
      (argsTold (a ++ (b ++ [pcEnd]))) (argsTold a) (argsTold (b ++ [pcEnd])) (argsTold_app a _ fw) (fun h => ?_) (by omega) (by omega)
      (fun h wx A1 l1 c1 hlc hr => implArgs_any _ wx A1 l1 c1 (argsOk_of _ (hgood h).1 (hgood h).2.2) (by have := (hgood h).2.2; omega) (pairsT_pairs _ (hgood h).2.1) wo hlc hr)
      (fun wx hr => implArgs_any a wx A la ca (argsOk_of a ga (by omega)) (by omega) (pairsT_pairs a pa) wa hca hr)
      (fun h wx A1 l1 c1 hlc hr => implArgs_any _ wx A1 l1 c1 (argsOk_each _ (argsGood_app b _ gb ⟨by simp [pcEnd], good_one, trivial⟩) (fun x hx => ?_)) (by omega) (pairsT_pairs _ (hbw h)) (argsWf_app b _ wb we) hlc hr)
      (fun h wx A1 A2 l1 c1 l2 c2 q1 q2 => same_any_l _ ?_ _ wx A1 A2 l1 c1 l2 c2 (argsTold_refl _ (hgood h).1 wo ?_) ?_ q1 q2)
    · have hw2 : waits false (a ++ b) = false := by
        have h3 := pairsT_app (a ++ b) [pcEnd] false (by rw [List.append_assoc]; exact (hgood h).2.1)
        cases hq : waits false (a ++ b) with
        | false => rfl
        | true => rw [hq] at h3; exact absurd ⟨rfl, rfl⟩ h3.1
      rw [← List.append_assoc]
      unfold argsTold
      rw [rcRaw_app _ _ hw2, attrsOf_app, full_append, told_len, slen_app2]
      have : (attrsOf none (rcRaw [pcEnd])).full.len = 1 := rfl
      omega
    · rcases List.mem_append.1 hx with hx | hx
      · have := val_le b x hx; omega
      · rw [List.mem_singleton.1 hx]; decide
    · have := argsTold_size (a ++ (b ++ [pcEnd])); have := (hgood h).2.2; omega
    · have := args_len (a ++ (b ++ [pcEnd])); have := (hgood h).2.2; omega
    · have := argsTold_size (a ++ (b ++ [pcEnd])); have := (hgood h).2.2; have := len_le_size (argsTold (a ++ (b ++ [pcEnd]))); omega

end Go.Proofs.YtihhgnbgejjijaaGreatDoor.Va
