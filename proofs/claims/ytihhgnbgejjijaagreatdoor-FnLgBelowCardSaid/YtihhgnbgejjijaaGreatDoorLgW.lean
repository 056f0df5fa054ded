/- keeper.WithAttrs, WithGroup; Logger.clone, With, WithGroup: the walks. -/
import Derived.Test.YtihhgnbgejjijaaGreatDoorLogA
namespace Go.Proofs.YtihhgnbgejjijaaGreatDoor.Va
set_option linter.unusedVariables false
set_option linter.unusedSimpArgs false
open Go Go.RowKit

set_option maxRecDepth 100000 in
set_option maxHeartbeats 2000000 in
/-- (keeper).WithAttrs. -/
theorem withAttrs_any {P : Nat → Prop} (min : Int) (fails : Bool) (c : Nat) (u : Value) (l : List GEv) (al : SAttrs) (A : Option Addr) (lb cb : Nat) (w : World) (h : EvR c u l w) (hn : l.length < 300000) (ha : RSS P w al A lb) (hsz : vSizeAll al ≤ 700000) :
    Calls Tryz.prog 247 #[.agg #[.int .i64 min, .bool fails, .pointer (some ⟨c, 0, none⟩)], .slice A lb cb] w (EvPost c u (l ++ [⟨1, 0, false, ByteArray.empty, ByteArray.empty, attrsTold al⟩]) (.iface 95 (.agg #[.int .i64 min, .bool fails, .pointer (some ⟨c, 0, none⟩)])) w) := by
  obtain ⟨i0, hi, hz0, hz1, hz2⟩ := info_parts infoEvent
  have hcl := h.lt
  have hug := h.own
  obtain ⟨xs, hU, hx⟩ := h
  obtain ⟨Q, hQ⟩ : ∃ Q : Ending → World → Prop, Q = EvPost c u (l ++ [⟨1, 0, false, ByteArray.empty, ByteArray.empty, attrsTold al⟩]) (.iface 95 (.agg #[.int .i64 min, .bool fails, .pointer (some ⟨c, 0, none⟩)])) w := ⟨_, rfl⟩
  rw [← hQ]
  have HQ := Lib.hid hQ
  have HX := Lib.hid hx
  have hnu : ∀ b, w.heap.size ≤ b → some b ≠ u.ownBlock := fun b hb e => by have := hug b e.symm; omega
  have hcu : some c ≠ u.ownBlock := fun e => by have := hug c e.symm; omega
  have B0 : Below w.heap.size w (w.alloc (.cells #[.int .i64 min, .bool fails, .pointer (some ⟨c, 0, none⟩)] 95)).drew := (by repeat' (first | with_reducible assumption | with_reducible exact Below.refl _ _ | with_reducible refine Below.setCell ?_ ?_ _ | with_reducible refine Below.alloc ?_ ?_ _ | with_reducible refine Below.drew ?_ | with_reducible refine below_drewN ?_ _ | omega | (simp; done) | (simp; omega)))
  have k0 : ((w.alloc (.cells #[.int .i64 min, .bool fails, .pointer (some ⟨c, 0, none⟩)] 95)).drew).cell? ⟨w.heap.size, 0, none⟩ = some (.int .i64 min) := cell_new w _ _ _ 0 _ rfl rfl
  have k1 : ((w.alloc (.cells #[.int .i64 min, .bool fails, .pointer (some ⟨c, 0, none⟩)] 95)).drew).cell? ⟨w.heap.size, 1, none⟩ = some (.bool fails) := cell_new w _ _ _ 1 _ rfl rfl
  have k2 : ((w.alloc (.cells #[.int .i64 min, .bool fails, .pointer (some ⟨c, 0, none⟩)] 95)).drew).cell? ⟨w.heap.size, 2, none⟩ = some (.pointer (some ⟨c, 0, none⟩)) := cell_new w _ _ _ 2 _ rfl rfl
  have s0 : w.heap.size < ((w.alloc (.cells #[.int .i64 min, .bool fails, .pointer (some ⟨c, 0, none⟩)] 95)).drew).heap.size := by simp [World.drew]
  have HCA := Lib.hid (fun wx (hk : KeepsOn P w wx) => attrsTold_any al P wx A lb cb hsz (ha.turn hk (fun _ h _ => h)))
  unfold ListPost at HCA
  clear ha hsz
  clear hQ hx
  go_enter Tryz.func247, Tryz.ntmps247
  go_wp2_with fail
  refine wp_region_last (n := 12) (by kernel_rfl) rfl (by kernel_rfl) ?_
  simp only [List.pop_toArray, List.dropLast]
  refine wpAny_last (n := 11) (by kernel_rfl) rfl ?_
  simp only [List.pop_toArray, List.dropLast]
  generalize (w.alloc (.cells #[.int .i64 min, .bool fails, .pointer (some ⟨c, 0, none⟩)] 95)).drew = W1 at B0 k0 k1 k2 s0 ⊢
  have kc : W1.cell? ⟨c, 0, none⟩ = some u := (keeps_of_below B0).cell hU.1
  have kf : W1.frozen? ⟨c, 0, none⟩ = false := (B0.frozen (p := ⟨c, 0, none⟩) hcl).trans hU.2.1
  have HO := Lib.hid (own_below hU.2.2 B0)
  have HB0 := Lib.hid B0
  clear hU B0
  refine wpAny_of_held (S := SH W1 u.ownBlock) _ _ _ _ ?_
  have hH : SH W1 u.ownBlock W1 := KeepsOn.refl _ _
  refine wpAnyH_take (i := 0) (oi := ({ dst := some 5, op := Op.fieldAddr 95 (Operand.tmp 2) 2, type := 0, pos := "records.go:126", after := #[], guard := none } : Oper)) (v := .pointer (some ⟨w.heap.size, 2, none⟩)) rfl (by kernel_rfl) (by kernel_rfl) (by kernel_rfl) (fun _ _ _ h => h) (Or.inl ⟨by rfl, fun w' hS => by clear k0 k1 k2 kc kf; go_simp⟩) hH ?_
  try simp only [Act.put, List.setIfInBounds_toArray, List.set_cons_zero, List.set_cons_succ]
  refine wpAnyH_take (i := 1) (oi := ({ dst := some 6, op := Op.load 93 (Operand.tmp 5), type := 93, pos := "records.go:126", after := #[{ on := 0, ground := Ground.data }], guard := none } : Oper)) (v := .pointer (some ⟨c, 0, none⟩)) rfl (by kernel_rfl) (by kernel_rfl) (by kernel_rfl) (fun _ _ _ h => h) (Or.inl ⟨by rfl, fun w' hS => by have k := hS.cell (hnu _ (Nat.le_refl _)) k2; clear k0 k1 k2 kc kf; go_simp⟩) hH ?_
  try simp only [Act.put, List.setIfInBounds_toArray, List.set_cons_zero, List.set_cons_succ]
  refine wpAnyH_take (i := 2) (oi := ({ dst := some 7, op := Op.fieldAddr 95 (Operand.tmp 2) 2, type := 0, pos := "records.go:126", after := #[], guard := none } : Oper)) (v := .pointer (some ⟨w.heap.size, 2, none⟩)) rfl (by kernel_rfl) (by kernel_rfl) (by kernel_rfl) (fun _ _ _ h => h) (Or.inl ⟨by rfl, fun w' hS => by clear k0 k1 k2 kc kf; go_simp⟩) hH ?_
  try simp only [Act.put, List.setIfInBounds_toArray, List.set_cons_zero, List.set_cons_succ]
  refine wpAnyH_take (i := 3) (oi := ({ dst := some 8, op := Op.load 93 (Operand.tmp 7), type := 93, pos := "records.go:126", after := #[{ on := 2, ground := Ground.data }], guard := none } : Oper)) (v := .pointer (some ⟨c, 0, none⟩)) rfl (by kernel_rfl) (by kernel_rfl) (by kernel_rfl) (fun _ _ _ h => h) (Or.inl ⟨by rfl, fun w' hS => by have k := hS.cell (hnu _ (Nat.le_refl _)) k2; clear k0 k1 k2 kc kf; go_simp⟩) hH ?_
  try simp only [Act.put, List.setIfInBounds_toArray, List.set_cons_zero, List.set_cons_succ]
  refine wpAnyH_take (i := 4) (oi := ({ dst := some 9, op := Op.nilCheck (Operand.tmp 8), type := 0, pos := "records.go:126", after := #[{ on := 3, ground := Ground.data }], guard := none } : Oper)) (v := .pointer (some ⟨c, 0, none⟩)) rfl (by kernel_rfl) (by kernel_rfl) (by kernel_rfl) (fun _ _ _ h => h) (Or.inl ⟨by rfl, fun w' hS => by clear k0 k1 k2 kc kf; go_simp⟩) hH ?_
  try simp only [Act.put, List.setIfInBounds_toArray, List.set_cons_zero, List.set_cons_succ]
  refine wpAnyH_take (i := 5) (oi := ({ dst := some 10, op := Op.load 63 (Operand.tmp 9), type := 63, pos := "records.go:126", after := #[{ on := 4, ground := Ground.data }], guard := none } : Oper)) (v := u) rfl (by kernel_rfl) (by kernel_rfl) (by kernel_rfl) (fun _ _ _ h => h) (Or.inl ⟨by rfl, fun w' hS => by have k := hS.cell hcu kc; clear k0 k1 k2 kc kf; go_simp⟩) hH ?_
  try simp only [Act.put, List.setIfInBounds_toArray, List.set_cons_zero, List.set_cons_succ]
  refine wpAnyH_take (i := 6) (oi := ({ dst := some 11, op := Op.move (Operand.tmp 1), type := 113, pos := "records.go:126", after := #[], guard := none } : Oper)) (v := .slice A lb cb) rfl (by kernel_rfl) (by kernel_rfl) (by kernel_rfl) (fun _ _ _ h => h) (Or.inl ⟨by rfl, fun w' hS => by clear k0 k1 k2 kc kf; go_simp⟩) hH ?_
  try simp only [Act.put, List.setIfInBounds_toArray, List.set_cons_zero, List.set_cons_succ]
  clear hH
  refine wpAnyH_ready (rs := [7]) (by kernel_rfl) (by simp) ?_
  refine AllReadyH.cons (o := ({ dst := some 12, op := Op.call { callee := Callee.value (Operand.func 102), args := #[Operand.tmp 11], argTypes := #[113] }, type := 24, pos := "records.go:126", after := #[{ on := 6, ground := Ground.data }], guard := none } : Oper)) rfl (fun K hK => ?_) AllReadyH.nil
  go_simp
  refine (HCA.out W1 ((keeps_of_below HB0.out).on _)).mono ?_
  rintro e w3 ⟨A3, len3, cap3, rfl, hr3, hb3⟩
  have HR3 := Lib.hid hr3
  have HB3 := Lib.hid hb3
  have hs3 := hb3.size
  clear hr3 HCA hb3
  dsimp only
  refine hK.out _ _ ?_ (fun hHeld => ?_)
  · exact (keeps_of_below HB3.out).on _
  clear hK K hHeld
  try simp only [Act.put, List.setIfInBounds_toArray, List.set_cons_zero, List.set_cons_succ]
  have c0 := (keeps_of_below HB3.out).cell k0
  have c1 := (keeps_of_below HB3.out).cell k1
  have c2 := (keeps_of_below HB3.out).cell k2
  have cc := (keeps_of_below HB3.out).cell kc
  have cf : w3.frozen? ⟨c, 0, none⟩ = false := (HB3.out.frozen (p := ⟨c, 0, none⟩) (by show c < _; omega)).trans kf
  clear k0 k1 k2 kc kf
  have hcs : c < w3.heap.size := by omega
  have hws : w.heap.size < w3.heap.size := by omega
  refine wpAnyH_ready (rs := [8]) (by kernel_rfl) (by simp) ?_
  refine AllReadyH.cons (o := ({ dst := some 13, op := Op.build 101 #[(0, Operand.const (Value.int IntKind.i64 1)), (5, Operand.tmp 12)], type := 101, pos := "records.go:126", after := #[{ on := 7, ground := Ground.data }], guard := none } : Oper)) rfl (fun K hK => ?_) AllReadyH.nil
  go_simp
  refine hK.out _ _ ?_ (fun hHeld => ?_)
  · exact (keeps_of_below HB3.out).on _
  clear hK K hHeld
  try simp only [Act.put, List.setIfInBounds_toArray, List.set_cons_zero, List.set_cons_succ]
  refine wpAnyH_ready (rs := [9]) (by kernel_rfl) (by simp) ?_
  refine AllReadyH.cons (o := ({ dst := some 14, op := Op.buildSlice 63 1 #[(0, Operand.tmp 13)], type := 63, pos := "records.go:126", after := #[{ on := 8, ground := Ground.data }], guard := none } : Oper)) rfl (fun K hK => ?_) AllReadyH.nil
  go_simp
  refine hK.out _ _ ?_ (fun hHeld => ?_)
  · exact ((keeps_of_below HB3.out).on _).trans ((KeepsOn.refl _ _).alloc _)
  clear hK K hHeld
  try simp only [Act.put, List.setIfInBounds_toArray, List.set_cons_zero, List.set_cons_succ]
  refine wpAnyH_ready (rs := [10]) (by kernel_rfl) (by simp) ?_
  refine AllReadyH.cons (o := ({ dst := some 15, op := Op.call { callee := Callee.builtin Builtin.append, args := #[Operand.tmp 10, Operand.tmp 14], argTypes := #[63, 63] }, type := 63, pos := "records.go:126", after := #[{ on := 5, ground := Ground.data }, { on := 9, ground := Ground.data }, { on := 7, ground := Ground.chain }], guard := none } : Oper)) rfl (fun K hK => ?_) AllReadyH.nil
  refine step_append_lies _ rfl (.tmp 10) (.tmp 14) 63 rfl (c + 1) 101 i0 _ 6 80 Tryz.underlying63 hi hz0 hz1 hz2 rfl (by decide) _ l.length xs rfl ((own_below HO.out HB3.out).alloc _) ⟨_, 0, none⟩ 1 1 [.int .i64 1, .int .i64 0, .bool false, .string ⟨#[]⟩, .string ⟨#[]⟩, .slice A3 len3 cap3] rfl rfl (by intro j u hj; exact cells_new _ _ _ _ (by simp) j u hj) (by intro u hu; simp at hu; (repeat' (rcases hu with rfl | hu)); all_goals (first | rfl | (subst hu; rfl))) (by decide) (by unfold maxLen; omega) (by omega) (by simp; omega) _ rfl ?_
  intro g cap4 w4 hown4 hgrow4 hat4 hlt4
  have d0 := (World.cell?_of_block (a := ⟨w.heap.size, 0, none⟩) (hgrow4.block w.heap.size (by simp; omega) (hnu _ (Nat.le_refl _)))).trans (show _ = some _ by simp [go_sem, c0, hws]; rfl)
  have d1 := (World.cell?_of_block (a := ⟨w.heap.size, 1, none⟩) (hgrow4.block w.heap.size (by simp; omega) (hnu _ (Nat.le_refl _)))).trans (show _ = some _ by simp [go_sem, c1, hws]; rfl)
  have d2 := (World.cell?_of_block (a := ⟨w.heap.size, 2, none⟩) (hgrow4.block w.heap.size (by simp; omega) (hnu _ (Nat.le_refl _)))).trans (show _ = some _ by simp [go_sem, c2, hws]; rfl)
  have dc : w4.cell? ⟨c, 0, none⟩ = some u := (World.cell?_of_block (a := ⟨c, 0, none⟩) (hgrow4.block c (by simp; omega) hcu)).trans (by simp [go_sem, cc, hcs])
  have df : w4.frozen? ⟨c, 0, none⟩ = false := (World.frozen?_of_block (a := ⟨c, 0, none⟩) (hgrow4.block c (by simp; omega) hcu)).trans (by simp [go_sem, cf, hcs])
  have HO4 := Lib.hid hown4
  have HG4 := Lib.hid hgrow4
  have HA4 := Lib.hid hat4
  clear hown4 hgrow4 hat4 hlt4 cc cf c0 c1 c2
  refine hK.out _ _ ?_ (fun hHeld => ?_)
  · exact (((keeps_of_below HB3.out).on _).trans ((KeepsOn.refl _ _).alloc _)).trans (keepsOn_of_grown HG4.out (fun b hb => hb))
  clear hK K hHeld
  try simp only [Act.put, List.setIfInBounds_toArray, List.set_cons_zero, List.set_cons_succ]
  refine wpAnyH_done (by kernel_rfl) ?_ _
  try unfold LastQ
  refine wpOp_step (o := ({ dst := some 16, op := Op.nilCheck (Operand.tmp 6), type := 0, pos := "records.go:126", after := #[{ on := 1, ground := Ground.data }, { on := 0, ground := Ground.phase }, { on := 1, ground := Ground.phase }, { on := 2, ground := Ground.phase }, { on := 3, ground := Ground.phase }, { on := 4, ground := Ground.phase }, { on := 5, ground := Ground.phase }, { on := 6, ground := Ground.phase }, { on := 7, ground := Ground.phase }, { on := 8, ground := Ground.phase }, { on := 9, ground := Ground.phase }, { on := 10, ground := Ground.phase }], guard := none } : Oper)) rfl (fun K hK => ?_)
  go_simp
  refine hK _ _ ?_
  clear hK K
  try simp only [Act.put, List.setIfInBounds_toArray, List.set_cons_zero, List.set_cons_succ]
  try unfold LastQ
  refine wpOp_step (o := ({ dst := none, op := Op.store 63 (Operand.tmp 16) (Operand.tmp 15), type := 0, pos := "records.go:126", after := #[{ on := 11, ground := Ground.data }, { on := 10, ground := Ground.data }, { on := 10, ground := Ground.chain }, { on := 0, ground := Ground.phase }, { on := 1, ground := Ground.phase }, { on := 2, ground := Ground.phase }, { on := 3, ground := Ground.phase }, { on := 4, ground := Ground.phase }, { on := 5, ground := Ground.phase }, { on := 6, ground := Ground.phase }, { on := 7, ground := Ground.phase }, { on := 8, ground := Ground.phase }, { on := 9, ground := Ground.phase }, { on := 10, ground := Ground.phase }], guard := none } : Oper)) rfl (fun K hK => ?_)
  go_simp
  refine hK _ _ ?_
  clear hK K
  try simp only [Act.put, List.setIfInBounds_toArray, List.set_cons_zero, List.set_cons_succ]
  have hcn : ¬ w.heap.size = c := by omega
  have hcn2 : ¬ c = w.heap.size := by omega
  go_wp2
  rw [HQ.out]
  have HG : World.grownBy _ w4 u.ownBlock := HG4.out
  have HA : u.ownBlock = some g ∨ g = _ := HA4.out
  have hT : Two c u.ownBlock w _ := ((((Two.of_below HB0.out).below HB3.out).alloc _).then (Two.of_grown HG)).set 0 (.slice (some ⟨g, 0, none⟩) (l.length + 1) cap4)
  have hN : NewRow u (.slice (some ⟨g, 0, none⟩) (l.length + 1) cap4) w := by
    rcases HA with h | h
    · exact .inl h.symm
    · exact .inr ⟨g, rfl, by simp at h; omega⟩
  refine ⟨rfl, _, evr_add (ev := ⟨1, 0, false, ByteArray.empty, ByteArray.empty, attrsTold al⟩) HX.out hT hN ⟨World.cell?_setCell_same _ _ _ dc, by rw [World.frozen?_setCell]; exact df, ownsRow_setCell_below HO4.out (Nat.lt_succ_self _) _⟩ (HR3.out.turn (((KeepsOn.refl _ _).alloc _).trans (keepsOn_of_grown HG (fun b hb => ?_)) |>.setCell (fun b hb => ?_) _) (fun b hb hlt => ⟨?_, fun e => ?_⟩)), hT, hN⟩
  · simp at hb; exact hnu b (by omega)
  · simp at hb ⊢; omega
  · simp at hb; omega
  · have e : some b = some g := e
    injection e with e
    simp at hb
    rcases HA with h | h
    · have := hug g h; omega
    · simp at h; omega

set_option maxRecDepth 100000 in
set_option maxHeartbeats 2000000 in
/-- (keeper).WithGroup. -/
theorem withGroup_any (min : Int) (fails : Bool) (c : Nat) (u : Value) (l : List GEv) (name : ByteArray) (w : World) (h : EvR c u l w) (hn : l.length < 300000)  :
    Calls Tryz.prog 248 #[.agg #[.int .i64 min, .bool fails, .pointer (some ⟨c, 0, none⟩)], .string name] w (EvPost c u (l ++ [⟨2, 0, false, name, ByteArray.empty, .nil⟩]) (.iface 95 (.agg #[.int .i64 min, .bool fails, .pointer (some ⟨c, 0, none⟩)])) w) := by
  obtain ⟨i0, hi, hz0, hz1, hz2⟩ := info_parts infoEvent
  have hcl := h.lt
  have hug := h.own
  obtain ⟨xs, hU, hx⟩ := h
  obtain ⟨Q, hQ⟩ : ∃ Q : Ending → World → Prop, Q = EvPost c u (l ++ [⟨2, 0, false, name, ByteArray.empty, .nil⟩]) (.iface 95 (.agg #[.int .i64 min, .bool fails, .pointer (some ⟨c, 0, none⟩)])) w := ⟨_, rfl⟩
  rw [← hQ]
  have HQ := Lib.hid hQ
  have HX := Lib.hid hx
  have hnu : ∀ b, w.heap.size ≤ b → some b ≠ u.ownBlock := fun b hb e => by have := hug b e.symm; omega
  have hcu : some c ≠ u.ownBlock := fun e => by have := hug c e.symm; omega
  have B0 : Below w.heap.size w (w.alloc (.cells #[.int .i64 min, .bool fails, .pointer (some ⟨c, 0, none⟩)] 95)).drew := (by repeat' (first | with_reducible assumption | with_reducible exact Below.refl _ _ | with_reducible refine Below.setCell ?_ ?_ _ | with_reducible refine Below.alloc ?_ ?_ _ | with_reducible refine Below.drew ?_ | with_reducible refine below_drewN ?_ _ | omega | (simp; done) | (simp; omega)))
  have k0 : ((w.alloc (.cells #[.int .i64 min, .bool fails, .pointer (some ⟨c, 0, none⟩)] 95)).drew).cell? ⟨w.heap.size, 0, none⟩ = some (.int .i64 min) := cell_new w _ _ _ 0 _ rfl rfl
  have k1 : ((w.alloc (.cells #[.int .i64 min, .bool fails, .pointer (some ⟨c, 0, none⟩)] 95)).drew).cell? ⟨w.heap.size, 1, none⟩ = some (.bool fails) := cell_new w _ _ _ 1 _ rfl rfl
  have k2 : ((w.alloc (.cells #[.int .i64 min, .bool fails, .pointer (some ⟨c, 0, none⟩)] 95)).drew).cell? ⟨w.heap.size, 2, none⟩ = some (.pointer (some ⟨c, 0, none⟩)) := cell_new w _ _ _ 2 _ rfl rfl
  have s0 : w.heap.size < ((w.alloc (.cells #[.int .i64 min, .bool fails, .pointer (some ⟨c, 0, none⟩)] 95)).drew).heap.size := by simp [World.drew]
  clear hQ hx
  go_enter Tryz.func248, Tryz.ntmps248
  go_wp2_with fail
  refine wp_region_last (n := 11) (by kernel_rfl) rfl (by kernel_rfl) ?_
  simp only [List.pop_toArray, List.dropLast]
  refine wpAny_last (n := 10) (by kernel_rfl) rfl ?_
  simp only [List.pop_toArray, List.dropLast]
  generalize (w.alloc (.cells #[.int .i64 min, .bool fails, .pointer (some ⟨c, 0, none⟩)] 95)).drew = W1 at B0 k0 k1 k2 s0 ⊢
  have kc : W1.cell? ⟨c, 0, none⟩ = some u := (keeps_of_below B0).cell hU.1
  have kf : W1.frozen? ⟨c, 0, none⟩ = false := (B0.frozen (p := ⟨c, 0, none⟩) hcl).trans hU.2.1
  have HO := Lib.hid (own_below hU.2.2 B0)
  have HB0 := Lib.hid B0
  clear hU B0
  refine wpAny_of_held (S := SH W1 u.ownBlock) _ _ _ _ ?_
  have hH : SH W1 u.ownBlock W1 := KeepsOn.refl _ _
  refine wpAnyH_take (i := 0) (oi := ({ dst := some 5, op := Op.fieldAddr 95 (Operand.tmp 2) 2, type := 0, pos := "records.go:131", after := #[], guard := none } : Oper)) (v := .pointer (some ⟨w.heap.size, 2, none⟩)) rfl (by kernel_rfl) (by kernel_rfl) (by kernel_rfl) (fun _ _ _ h => h) (Or.inl ⟨by rfl, fun w' hS => by clear k0 k1 k2 kc kf; go_simp⟩) hH ?_
  try simp only [Act.put, List.setIfInBounds_toArray, List.set_cons_zero, List.set_cons_succ]
  refine wpAnyH_take (i := 1) (oi := ({ dst := some 6, op := Op.load 93 (Operand.tmp 5), type := 93, pos := "records.go:131", after := #[{ on := 0, ground := Ground.data }], guard := none } : Oper)) (v := .pointer (some ⟨c, 0, none⟩)) rfl (by kernel_rfl) (by kernel_rfl) (by kernel_rfl) (fun _ _ _ h => h) (Or.inl ⟨by rfl, fun w' hS => by have k := hS.cell (hnu _ (Nat.le_refl _)) k2; clear k0 k1 k2 kc kf; go_simp⟩) hH ?_
  try simp only [Act.put, List.setIfInBounds_toArray, List.set_cons_zero, List.set_cons_succ]
  refine wpAnyH_take (i := 2) (oi := ({ dst := some 7, op := Op.fieldAddr 95 (Operand.tmp 2) 2, type := 0, pos := "records.go:131", after := #[], guard := none } : Oper)) (v := .pointer (some ⟨w.heap.size, 2, none⟩)) rfl (by kernel_rfl) (by kernel_rfl) (by kernel_rfl) (fun _ _ _ h => h) (Or.inl ⟨by rfl, fun w' hS => by clear k0 k1 k2 kc kf; go_simp⟩) hH ?_
  try simp only [Act.put, List.setIfInBounds_toArray, List.set_cons_zero, List.set_cons_succ]
  refine wpAnyH_take (i := 3) (oi := ({ dst := some 8, op := Op.load 93 (Operand.tmp 7), type := 93, pos := "records.go:131", after := #[{ on := 2, ground := Ground.data }], guard := none } : Oper)) (v := .pointer (some ⟨c, 0, none⟩)) rfl (by kernel_rfl) (by kernel_rfl) (by kernel_rfl) (fun _ _ _ h => h) (Or.inl ⟨by rfl, fun w' hS => by have k := hS.cell (hnu _ (Nat.le_refl _)) k2; clear k0 k1 k2 kc kf; go_simp⟩) hH ?_
  try simp only [Act.put, List.setIfInBounds_toArray, List.set_cons_zero, List.set_cons_succ]
  refine wpAnyH_take (i := 4) (oi := ({ dst := some 9, op := Op.nilCheck (Operand.tmp 8), type := 0, pos := "records.go:131", after := #[{ on := 3, ground := Ground.data }], guard := none } : Oper)) (v := .pointer (some ⟨c, 0, none⟩)) rfl (by kernel_rfl) (by kernel_rfl) (by kernel_rfl) (fun _ _ _ h => h) (Or.inl ⟨by rfl, fun w' hS => by clear k0 k1 k2 kc kf; go_simp⟩) hH ?_
  try simp only [Act.put, List.setIfInBounds_toArray, List.set_cons_zero, List.set_cons_succ]
  refine wpAnyH_take (i := 5) (oi := ({ dst := some 10, op := Op.load 63 (Operand.tmp 9), type := 63, pos := "records.go:131", after := #[{ on := 4, ground := Ground.data }], guard := none } : Oper)) (v := u) rfl (by kernel_rfl) (by kernel_rfl) (by kernel_rfl) (fun _ _ _ h => h) (Or.inl ⟨by rfl, fun w' hS => by have k := hS.cell hcu kc; clear k0 k1 k2 kc kf; go_simp⟩) hH ?_
  try simp only [Act.put, List.setIfInBounds_toArray, List.set_cons_zero, List.set_cons_succ]
  refine wpAnyH_take (i := 6) (oi := ({ dst := some 11, op := Op.move (Operand.tmp 1), type := 9, pos := "records.go:131", after := #[], guard := none } : Oper)) (v := .string name) rfl (by kernel_rfl) (by kernel_rfl) (by kernel_rfl) (fun _ _ _ h => h) (Or.inl ⟨by rfl, fun w' hS => by clear k0 k1 k2 kc kf; go_simp⟩) hH ?_
  try simp only [Act.put, List.setIfInBounds_toArray, List.set_cons_zero, List.set_cons_succ]
  clear hH
  have HB3 := Lib.hid (show Below W1.heap.size W1 W1 from Below.refl _ _)
  have c0 := (keeps_of_below HB3.out).cell k0
  have c1 := (keeps_of_below HB3.out).cell k1
  have c2 := (keeps_of_below HB3.out).cell k2
  have cc := (keeps_of_below HB3.out).cell kc
  have cf : W1.frozen? ⟨c, 0, none⟩ = false := (HB3.out.frozen (p := ⟨c, 0, none⟩) (by show c < _; omega)).trans kf
  clear k0 k1 k2 kc kf
  have hcs : c < W1.heap.size := by omega
  have hws : w.heap.size < W1.heap.size := by omega
  refine wpAnyH_ready (rs := [7]) (by kernel_rfl) (by simp) ?_
  refine AllReadyH.cons (o := ({ dst := some 12, op := Op.build 101 #[(0, Operand.const (Value.int IntKind.i64 2)), (3, Operand.tmp 11)], type := 101, pos := "records.go:131", after := #[{ on := 6, ground := Ground.data }], guard := none } : Oper)) rfl (fun K hK => ?_) AllReadyH.nil
  go_simp
  refine hK.out _ _ ?_ (fun hHeld => ?_)
  · exact (keeps_of_below HB3.out).on _
  clear hK K hHeld
  try simp only [Act.put, List.setIfInBounds_toArray, List.set_cons_zero, List.set_cons_succ]
  refine wpAnyH_ready (rs := [8]) (by kernel_rfl) (by simp) ?_
  refine AllReadyH.cons (o := ({ dst := some 13, op := Op.buildSlice 63 1 #[(0, Operand.tmp 12)], type := 63, pos := "records.go:131", after := #[{ on := 7, ground := Ground.data }], guard := none } : Oper)) rfl (fun K hK => ?_) AllReadyH.nil
  go_simp
  refine hK.out _ _ ?_ (fun hHeld => ?_)
  · exact ((keeps_of_below HB3.out).on _).trans ((KeepsOn.refl _ _).alloc _)
  clear hK K hHeld
  try simp only [Act.put, List.setIfInBounds_toArray, List.set_cons_zero, List.set_cons_succ]
  refine wpAnyH_ready (rs := [9]) (by kernel_rfl) (by simp) ?_
  refine AllReadyH.cons (o := ({ dst := some 14, op := Op.call { callee := Callee.builtin Builtin.append, args := #[Operand.tmp 10, Operand.tmp 13], argTypes := #[63, 63] }, type := 63, pos := "records.go:131", after := #[{ on := 5, ground := Ground.data }, { on := 8, ground := Ground.data }], guard := none } : Oper)) rfl (fun K hK => ?_) AllReadyH.nil
  refine step_append_lies _ rfl (.tmp 10) (.tmp 13) 63 rfl (c + 1) 101 i0 _ 6 80 Tryz.underlying63 hi hz0 hz1 hz2 rfl (by decide) _ l.length xs rfl ((own_below HO.out HB3.out).alloc _) ⟨_, 0, none⟩ 1 1 [.int .i64 2, .int .i64 0, .bool false, .string name, .string ⟨#[]⟩, .slice none 0 0] rfl rfl (by intro j u hj; exact cells_new _ _ _ _ (by simp) j u hj) (by intro u hu; simp at hu; (repeat' (rcases hu with rfl | hu)); all_goals (first | rfl | (subst hu; rfl))) (by decide) (by unfold maxLen; omega) (by omega) (by simp; omega) _ rfl ?_
  intro g cap4 w4 hown4 hgrow4 hat4 hlt4
  have d0 := (World.cell?_of_block (a := ⟨w.heap.size, 0, none⟩) (hgrow4.block w.heap.size (by simp; omega) (hnu _ (Nat.le_refl _)))).trans (show _ = some _ by simp [go_sem, c0, hws]; rfl)
  have d1 := (World.cell?_of_block (a := ⟨w.heap.size, 1, none⟩) (hgrow4.block w.heap.size (by simp; omega) (hnu _ (Nat.le_refl _)))).trans (show _ = some _ by simp [go_sem, c1, hws]; rfl)
  have d2 := (World.cell?_of_block (a := ⟨w.heap.size, 2, none⟩) (hgrow4.block w.heap.size (by simp; omega) (hnu _ (Nat.le_refl _)))).trans (show _ = some _ by simp [go_sem, c2, hws]; rfl)
  have dc : w4.cell? ⟨c, 0, none⟩ = some u := (World.cell?_of_block (a := ⟨c, 0, none⟩) (hgrow4.block c (by simp; omega) hcu)).trans (by simp [go_sem, cc, hcs])
  have df : w4.frozen? ⟨c, 0, none⟩ = false := (World.frozen?_of_block (a := ⟨c, 0, none⟩) (hgrow4.block c (by simp; omega) hcu)).trans (by simp [go_sem, cf, hcs])
  have HO4 := Lib.hid hown4
  have HG4 := Lib.hid hgrow4
  have HA4 := Lib.hid hat4
  clear hown4 hgrow4 hat4 hlt4 cc cf c0 c1 c2
  refine hK.out _ _ ?_ (fun hHeld => ?_)
  · exact (((keeps_of_below HB3.out).on _).trans ((KeepsOn.refl _ _).alloc _)).trans (keepsOn_of_grown HG4.out (fun b hb => hb))
  clear hK K hHeld
  try simp only [Act.put, List.setIfInBounds_toArray, List.set_cons_zero, List.set_cons_succ]
  refine wpAnyH_done (by kernel_rfl) ?_ _
  try unfold LastQ
  refine wpOp_step (o := ({ dst := some 15, op := Op.nilCheck (Operand.tmp 6), type := 0, pos := "records.go:131", after := #[{ on := 1, ground := Ground.data }, { on := 0, ground := Ground.phase }, { on := 1, ground := Ground.phase }, { on := 2, ground := Ground.phase }, { on := 3, ground := Ground.phase }, { on := 4, ground := Ground.phase }, { on := 5, ground := Ground.phase }, { on := 6, ground := Ground.phase }, { on := 7, ground := Ground.phase }, { on := 8, ground := Ground.phase }, { on := 9, ground := Ground.phase }], guard := none } : Oper)) rfl (fun K hK => ?_)
  go_simp
  refine hK _ _ ?_
  clear hK K
  try simp only [Act.put, List.setIfInBounds_toArray, List.set_cons_zero, List.set_cons_succ]
  try unfold LastQ
  refine wpOp_step (o := ({ dst := none, op := Op.store 63 (Operand.tmp 15) (Operand.tmp 14), type := 0, pos := "records.go:131", after := #[{ on := 10, ground := Ground.data }, { on := 9, ground := Ground.data }, { on := 9, ground := Ground.chain }, { on := 0, ground := Ground.phase }, { on := 1, ground := Ground.phase }, { on := 2, ground := Ground.phase }, { on := 3, ground := Ground.phase }, { on := 4, ground := Ground.phase }, { on := 5, ground := Ground.phase }, { on := 6, ground := Ground.phase }, { on := 7, ground := Ground.phase }, { on := 8, ground := Ground.phase }, { on := 9, ground := Ground.phase }], guard := none } : Oper)) rfl (fun K hK => ?_)
  go_simp
  refine hK _ _ ?_
  clear hK K
  try simp only [Act.put, List.setIfInBounds_toArray, List.set_cons_zero, List.set_cons_succ]
  have hcn : ¬ w.heap.size = c := by omega
  have hcn2 : ¬ c = w.heap.size := by omega
  go_wp2
  rw [HQ.out]
  have HG : World.grownBy _ w4 u.ownBlock := HG4.out
  have HA : u.ownBlock = some g ∨ g = _ := HA4.out
  have hT : Two c u.ownBlock w _ := ((((Two.of_below HB0.out).below HB3.out).alloc _).then (Two.of_grown HG)).set 0 (.slice (some ⟨g, 0, none⟩) (l.length + 1) cap4)
  have hN : NewRow u (.slice (some ⟨g, 0, none⟩) (l.length + 1) cap4) w := by
    rcases HA with h | h
    · exact .inl h.symm
    · exact .inr ⟨g, rfl, by simp at h; omega⟩
  refine ⟨rfl, _, evr_add (ev := ⟨2, 0, false, name, ByteArray.empty, .nil⟩) HX.out hT hN ⟨World.cell?_setCell_same _ _ _ dc, by rw [World.frozen?_setCell]; exact df, ownsRow_setCell_below HO4.out (Nat.lt_succ_self _) _⟩ (RSP.nil_ _ _ _), hT, hN⟩

end Go.Proofs.YtihhgnbgejjijaaGreatDoor.Va

/- Logger.clone, With, WithGroup: the walks. -/
namespace Go.Proofs.YtihhgnbgejjijaaGreatDoor.Va
set_option linter.unusedVariables false
set_option linter.unusedSimpArgs false
open Go Go.RowKit

/-- A store of what is there already. -/
theorem set_self {w : World} {b o : Nat} {v : Value} (h : w.cell? ⟨b, o, none⟩ = some v) : w.setCell ⟨b, o, none⟩ v = w := by
  have hb : b < w.heap.size := World.block_lt_of_cell? w _ h
  have hm : (w.heap.modify b fun
      | .cells c elem frozen => .cells (c.setIfInBounds o v) elem frozen
      | o => o) = w.heap := by
    apply Array.ext_getElem?
    intro i
    rw [Array.getElem?_modify]
    split
    · rename_i e
      subst e
      rw [Array.getElem?_eq_getElem hb]
      simp only [Option.map_some]
      congr 1
      cases hc : w.heap[b] with
      | cells c e f =>
        simp only
        congr 1
        apply Array.ext_getElem?
        intro j
        rw [Array.getElem?_setIfInBounds]
        split
        · rename_i e
          subst e
          have : c[o]? = some v := by simpa [World.cell?, Array.getElem?_eq_getElem hb, hc] using h
          split
          · exact this.symm
          · rename_i hlt; rw [Array.getElem?_eq_none (by omega)] at this; cases this
        · rfl
      | _ => rfl
    · rfl
  exact congrArg (fun h => ({ w with heap := h } : World)) hm

/-- A call that hands a Logger back. -/
def LgPost (c : Nat) (u : Value) (l : List GEv) (kv : Value) (w : World) (e : Ending) (w' : World) : Prop :=
  ∃ lg2 v, e = .returned (.pointer (some ⟨lg2, 0, none⟩)) ∧ w'.cell? ⟨lg2, 0, none⟩ = some kv ∧ lg2 ≠ c ∧ some lg2 ≠ v.ownBlock ∧ EvR c v l w' ∧ Two c u.ownBlock w w' ∧ NewRow u v w
theorem newRow_ne {u v : Value} {w : World} (h : NewRow u v w) {b : Nat} (hb : b < w.heap.size) (hu : some b ≠ u.ownBlock) : some b ≠ v.ownBlock := fun e => by
  rcases h with h | ⟨g, h, hg⟩
  · exact hu (e.trans h)
  · rw [h] at e; injection e with e; omega

theorem meth_attrs (k : Nat) (v : Value) (w : World) : (method (k + 1) 95 v "WithAttrs").run Tryz.prog w = .ok (247, v) w := by kernel_rfl
theorem meth_group (k : Nat) (v : Value) (w : World) : (method (k + 1) 95 v "WithGroup").run Tryz.prog w = .ok (248, v) w := by kernel_rfl

set_option maxRecDepth 100000 in
set_option maxHeartbeats 400000 in
/-- (*Logger).clone. -/
theorem clone_any (lg : Nat) (t : TypeId) (h : Value) (w : World) (hc : w.cell? ⟨lg, 0, none⟩ = some (.iface t h)) :
    Calls Tryz.prog 118 #[.pointer (some ⟨lg, 0, none⟩)] w fun e w' => e = .returned (.pointer (some ⟨w.heap.size, 0, none⟩)) ∧ w' = w.alloc (.cells #[.iface t h] 165) := by
  go_enter Tryz.func118, Tryz.ntmps118
  go_wp2
  go_ret
  exact ⟨rfl, rfl⟩

set_option maxRecDepth 100000 in
set_option maxHeartbeats 400000 in
/-- (*Logger).With, without arguments. -/
theorem with_none (lg : Nat) (A : Option Addr) (cap : Nat) (w : World) :
    Calls Tryz.prog 81 #[.pointer (some ⟨lg, 0, none⟩), .slice A 0 cap] w fun e w' => e = .returned (.pointer (some ⟨lg, 0, none⟩)) ∧ w' = w := by
  go_enter Tryz.func81, Tryz.ntmps81
  go_wp2
  go_ret
  exact ⟨rfl, rfl⟩
set_option maxRecDepth 100000 in
set_option maxHeartbeats 400000 in
/-- (*Logger).WithGroup, without a name. -/
theorem group_none (lg : Nat) (name : ByteArray) (hn : name = ByteArray.empty) (w : World) :
    Calls Tryz.prog 82 #[.pointer (some ⟨lg, 0, none⟩), .string name] w fun e w' => e = .returned (.pointer (some ⟨lg, 0, none⟩)) ∧ w' = w := by
  subst hn
  go_enter Tryz.func82, Tryz.ntmps82
  go_wp2
  go_ret
  exact ⟨rfl, rfl⟩

set_option maxRecDepth 100000 in
set_option maxHeartbeats 1000000 in
/-- (*Logger).WithGroup. -/
theorem group_some (lg : Nat) (min : Int) (c : Nat) (u : Value) (l : List GEv) (name : ByteArray) (hn : ¬ name = ByteArray.empty) (w : World) (h : EvR c u l w) (hln : l.length < 300000) (hl : w.cell? ⟨lg, 0, none⟩ = some (.iface 95 (.agg #[.int .i64 min, .bool false, .pointer (some ⟨c, 0, none⟩)]))) :
    Calls Tryz.prog 82 #[.pointer (some ⟨lg, 0, none⟩), .string name] w (LgPost c u (l ++ [⟨2, 0, false, name, ByteArray.empty, .nil⟩]) (.iface 95 (.agg #[.int .i64 min, .bool false, .pointer (some ⟨c, 0, none⟩)])) w) := by
  obtain ⟨Q, hQ⟩ : ∃ Q : Ending → World → Prop, Q = LgPost c u (l ++ [⟨2, 0, false, name, ByteArray.empty, .nil⟩]) (.iface 95 (.agg #[.int .i64 min, .bool false, .pointer (some ⟨c, 0, none⟩)])) w := ⟨_, rfl⟩
  rw [← hQ]
  have HQ := Lib.hid hQ
  have hcl := h.lt
  have hug := h.own
  have hnn := toList_ne hn
  have hB1 : Below w.heap.size w (w.alloc (.cells #[.iface 95 (.agg #[.int .i64 min, .bool false, .pointer (some ⟨c, 0, none⟩)])] 165)) := (Below.refl _ _).alloc (Nat.le_refl _) _
  have CW := Lib.hid (withGroup_any min false c u l name (w.alloc (.cells #[.iface 95 (.agg #[.int .i64 min, .bool false, .pointer (some ⟨c, 0, none⟩)])] 165)) (h.below hB1) hln)
  unfold EvPost at CW
  have mg := meth_group
  have k1 : (w.alloc (.cells #[.iface 95 (.agg #[.int .i64 min, .bool false, .pointer (some ⟨c, 0, none⟩)])] 165)).cell? ⟨w.heap.size, 0, none⟩ = some (.iface 95 (.agg #[.int .i64 min, .bool false, .pointer (some ⟨c, 0, none⟩)])) := cell_new w _ _ _ 0 _ rfl rfl
  have kl : (w.alloc (.cells #[.iface 95 (.agg #[.int .i64 min, .bool false, .pointer (some ⟨c, 0, none⟩)])] 165)).cell? ⟨lg, 0, none⟩ = some (.iface 95 (.agg #[.int .i64 min, .bool false, .pointer (some ⟨c, 0, none⟩)])) := (keeps_of_below hB1).cell hl
  clear hQ h
  go_enter Tryz.func82, Tryz.ntmps82
  go_wp2_with (first
    | (go_at_call 118; refine (clone_any lg 95 _ w hl).mono ?_; rintro e w1 ⟨rfl, rfl⟩)
    | (go_at_call 248; refine CW.out.mono ?_; rintro e w8 ⟨rfl, v8, hE8, hT8, hN8⟩; have q8 : w8.cell? ⟨w.heap.size, 0, none⟩ = some (.iface 95 (.agg #[.int .i64 min, .bool false, .pointer (some ⟨c, 0, none⟩)])) := (hT8.cell (by simp) (by omega) (fun e => by have := hug _ e.symm; omega)).trans k1; have z8 : w8.frozen? ⟨w.heap.size, 0, none⟩ = false := (hT8.frozen (by simp) (by omega) (fun e => by have := hug _ e.symm; omega)).trans (by simp [go_sem]); have H8 := Lib.hid (And.intro hE8 (And.intro hT8 hN8)); clear hE8 hT8 hN8))
  rw [HQ.out]
  have hw : w8.setCell ⟨w.heap.size, 0, none⟩ (.iface 95 (.agg #[.int .i64 min, .bool false, .pointer (some ⟨c, 0, none⟩)])) = w8 := set_self q8
  refine ⟨w.heap.size, v8, rfl, ?_, by omega, newRow_ne H8.out.2.2 (by simp) (fun e => by have := hug _ e.symm; omega), ?_, ?_, H8.out.2.2.mono (by simp)⟩
  · rw [hw]; exact q8
  · rw [hw]; exact H8.out.1
  · rw [hw]; exact (Two.of_below hB1).then H8.out.2.1

set_option maxRecDepth 100000 in
set_option maxHeartbeats 2000000 in
/-- (*Logger).With. -/
theorem with_some {P : Nat → Prop} (lg : Nat) (min : Int) (c : Nat) (u : Value) (l : List GEv) (al : List GArg) (w : World) (A : Option Addr) (len cap : Nat) (h : EvR c u l w) (hln : l.length < 300000) (hl : w.cell? ⟨lg, 0, none⟩ = some (.iface 95 (.agg #[.int .i64 min, .bool false, .pointer (some ⟨c, 0, none⟩)])))
    (hlg : lg ≠ c ∧ some lg ≠ u.ownBlock) (h0 : 0 < len) (ha : RAnyS P w al A len) (hlc : len ≤ cap) (hok : argsOk al) (hwf : argsWf al) (hp : pairsOk al) (hlen : al.length ≤ 299999) (hsz : vSizeAll (attrsOf none (rcRaw al)) ≤ 700000) :
    Calls Tryz.prog 81 #[.pointer (some ⟨lg, 0, none⟩), .slice A len cap] w (LgPost c u (l ++ [⟨1, 0, false, ByteArray.empty, ByteArray.empty, attrsTold (attrsOf none (rcRaw al))⟩]) (.iface 95 (.agg #[.int .i64 min, .bool false, .pointer (some ⟨c, 0, none⟩)])) w) := by
  obtain ⟨Q, hQ⟩ : ∃ Q : Ending → World → Prop, Q = LgPost c u (l ++ [⟨1, 0, false, ByteArray.empty, ByteArray.empty, attrsTold (attrsOf none (rcRaw al))⟩]) (.iface 95 (.agg #[.int .i64 min, .bool false, .pointer (some ⟨c, 0, none⟩)])) w := ⟨_, rfl⟩
  rw [← hQ]
  have HQ := Lib.hid hQ
  have hcl := h.lt
  have hug := h.own
  have hlgl : lg < w.heap.size := World.block_lt_of_cell? w _ hl
  have HE := Lib.hid h
  have HLG := Lib.hid hlg
  have CT := Lib.hid (fun P wx (h : RAnyS P wx al A len) hP => toSlice_any (P := P) al wx A len cap h hlc hok hwf hp (by omega) hP)
  have CW := Lib.hid (fun P wx A7 lb cb (h : EvR c u l wx) (ha : RSS P wx (attrsOf none (rcRaw al)) A7 lb) => withAttrs_any (P := P) min false c u l (attrsOf none (rcRaw al)) A7 lb cb wx h hln ha hsz)
  have HA := Lib.hid ha
  unfold SlPost at CT
  unfold EvPost at CW
  have mg := meth_attrs
  have k1 : (w.alloc (.cells #[.iface 95 (.agg #[.int .i64 min, .bool false, .pointer (some ⟨c, 0, none⟩)])] 165)).drew.cell? ⟨w.heap.size, 0, none⟩ = some (.iface 95 (.agg #[.int .i64 min, .bool false, .pointer (some ⟨c, 0, none⟩)])) := cell_new w _ _ _ 0 _ rfl rfl
  have f1 : (w.alloc (.cells #[.iface 95 (.agg #[.int .i64 min, .bool false, .pointer (some ⟨c, 0, none⟩)])] 165)).drew.frozen? ⟨w.heap.size, 0, none⟩ = false := by simp [go_sem]
  have hB1 : Below w.heap.size w (w.alloc (.cells #[.iface 95 (.agg #[.int .i64 min, .bool false, .pointer (some ⟨c, 0, none⟩)])] 165)).drew := (by repeat' (first | with_reducible assumption | with_reducible exact Below.refl _ _ | with_reducible refine Below.setCell ?_ ?_ _ | with_reducible refine Below.alloc ?_ ?_ _ | with_reducible refine Below.drew ?_ | with_reducible refine below_drewN ?_ _ | omega | (simp; done) | (simp; omega)))
  have s1 : w.heap.size < (w.alloc (.cells #[.iface 95 (.agg #[.int .i64 min, .bool false, .pointer (some ⟨c, 0, none⟩)])] 165)).drew.heap.size := by simp [World.drew]
  have hli : (0 : Int) < (len : Int) := by omega
  have hl0 : ¬ len = 0 := by omega
  have hl0i : ¬ (len : Int) = 0 := by omega
  clear hQ h ha hlc hok hwf hp hlen hsz hlg
  go_enter Tryz.func81, Tryz.ntmps81
  go_wp2_with (go_at_call 118; refine (clone_any lg 95 _ w hl).mono ?_; rintro e w1 ⟨rfl, rfl⟩)
  have kl : (w.alloc (.cells #[.iface 95 (.agg #[.int .i64 min, .bool false, .pointer (some ⟨c, 0, none⟩)])] 165)).drew.cell? ⟨lg, 0, none⟩ = some (.iface 95 (.agg #[.int .i64 min, .bool false, .pointer (some ⟨c, 0, none⟩)])) := (keeps_of_below hB1).cell hl
  refine wp_region_held_drew (S := fun w' => KeepsOn (fun b => b = lg) (w.alloc (.cells #[.iface 95 (.agg #[.int .i64 min, .bool false, .pointer (some ⟨c, 0, none⟩)])] 165)).drew w') (by kernel_rfl) (KeepsOn.refl _ _) (fun hH => ?_)
  generalize (w.alloc (.cells #[.iface 95 (.agg #[.int .i64 min, .bool false, .pointer (some ⟨c, 0, none⟩)])] 165)).drew = W1 at hB1 k1 f1 s1 kl hH ⊢
  have HB1 := Lib.hid hB1
  clear hB1
  refine wpAnyH_take (i := 0) (oi := ({ dst := some 12, op := Op.move (Operand.tmp 5), type := 91, pos := "logger.go:33", after := #[], guard := none } : Oper)) (v := .pointer (some ⟨w.heap.size, 0, none⟩)) rfl (by kernel_rfl) (by kernel_rfl) (by kernel_rfl) (fun _ _ _ h => h) (Or.inl ⟨by rfl, fun w' hS => by clear k1 f1 kl; go_simp⟩) hH ?_
  try simp only [Act.put, List.setIfInBounds_toArray, List.set_cons_zero, List.set_cons_succ]
  refine wpAnyH_take (i := 1) (oi := ({ dst := some 13, op := Op.move (Operand.tmp 0), type := 91, pos := "logger.go:33", after := #[], guard := none } : Oper)) (v := .pointer (some ⟨lg, 0, none⟩)) rfl (by kernel_rfl) (by kernel_rfl) (by kernel_rfl) (fun _ _ _ h => h) (Or.inl ⟨by rfl, fun w' hS => by clear k1 f1 kl; go_simp⟩) hH ?_
  try simp only [Act.put, List.setIfInBounds_toArray, List.set_cons_zero, List.set_cons_succ]
  refine wpAnyH_take (i := 2) (oi := ({ dst := some 14, op := Op.nilCheck (Operand.tmp 13), type := 0, pos := "logger.go:33", after := #[{ on := 1, ground := Ground.data }], guard := none } : Oper)) (v := .pointer (some ⟨lg, 0, none⟩)) rfl (by kernel_rfl) (by kernel_rfl) (by kernel_rfl) (fun _ _ _ h => h) (Or.inl ⟨by rfl, fun w' hS => by clear k1 f1 kl; go_simp⟩) hH ?_
  try simp only [Act.put, List.setIfInBounds_toArray, List.set_cons_zero, List.set_cons_succ]
  refine wpAnyH_take (i := 3) (oi := ({ dst := some 15, op := Op.fieldAddr 165 (Operand.tmp 14) 0, type := 0, pos := "logger.go:33", after := #[{ on := 2, ground := Ground.data }], guard := none } : Oper)) (v := .pointer (some ⟨lg, 0, none⟩)) rfl (by kernel_rfl) (by kernel_rfl) (by kernel_rfl) (fun _ _ _ h => h) (Or.inl ⟨by rfl, fun w' hS => by clear k1 f1 kl; go_simp⟩) hH ?_
  try simp only [Act.put, List.setIfInBounds_toArray, List.set_cons_zero, List.set_cons_succ]
  refine wpAnyH_take (i := 4) (oi := ({ dst := some 16, op := Op.load 135 (Operand.tmp 15), type := 135, pos := "logger.go:33", after := #[{ on := 3, ground := Ground.data }], guard := none } : Oper)) (v := .iface 95 (.agg #[.int .i64 min, .bool false, .pointer (some ⟨c, 0, none⟩)])) rfl (by kernel_rfl) (by kernel_rfl) (by kernel_rfl) (fun _ _ _ h => h) (Or.inl ⟨by rfl, fun w' hS => by have k := KeepsOn.cell hS rfl kl; clear k1 f1 kl; go_simp⟩) hH ?_
  try simp only [Act.put, List.setIfInBounds_toArray, List.set_cons_zero, List.set_cons_succ]
  refine wpAnyH_take (i := 5) (oi := ({ dst := some 17, op := Op.move (Operand.tmp 1), type := 98, pos := "logger.go:33", after := #[], guard := none } : Oper)) (v := .slice A len cap) rfl (by kernel_rfl) (by kernel_rfl) (by kernel_rfl) (fun _ _ _ h => h) (Or.inl ⟨by rfl, fun w' hS => by clear k1 f1 kl; go_simp⟩) hH ?_
  try simp only [Act.put, List.setIfInBounds_toArray, List.set_cons_zero, List.set_cons_succ]
  refine wpAnyH_take (i := 7) (oi := ({ dst := some 19, op := Op.nilCheck (Operand.tmp 16), type := 135, pos := "logger.go:33", after := #[{ on := 4, ground := Ground.data }], guard := none } : Oper)) (v := .iface 95 (.agg #[.int .i64 min, .bool false, .pointer (some ⟨c, 0, none⟩)])) rfl (by kernel_rfl) (by kernel_rfl) (by kernel_rfl) (fun _ _ _ h => h) (Or.inl ⟨by rfl, fun w' hS => by clear k1 f1 kl; go_simp⟩) hH ?_
  try simp only [Act.put, List.setIfInBounds_toArray, List.set_cons_zero, List.set_cons_succ]
  refine wpAnyH_take (i := 8) (oi := ({ dst := some 20, op := Op.move (Operand.tmp 16), type := 135, pos := "logger.go:33", after := #[{ on := 4, ground := Ground.data }, { on := 7, ground := Ground.data }], guard := none } : Oper)) (v := .iface 95 (.agg #[.int .i64 min, .bool false, .pointer (some ⟨c, 0, none⟩)])) rfl (by kernel_rfl) (by kernel_rfl) (by kernel_rfl) (fun _ _ _ h => h) (Or.inl ⟨by rfl, fun w' hS => by clear k1 f1 kl; go_simp⟩) hH ?_
  try simp only [Act.put, List.setIfInBounds_toArray, List.set_cons_zero, List.set_cons_succ]
  clear hH
  refine wpAnyH_ready (rs := [6]) (by kernel_rfl) (by simp) ?_
  refine AllReadyH.cons (o := ({ dst := some 18, op := Op.call { callee := Callee.value (Operand.func 119), args := #[Operand.tmp 17], argTypes := #[98] }, type := 113, pos := "logger.go:33", after := #[{ on := 5, ground := Ground.data }], guard := none } : Oper)) rfl (fun K hK => ?_) AllReadyH.nil
  go_simp
  refine (CT.out (fun b => (P b ∧ b < w.heap.size) ∨ w.heap.size ≤ b) W1 (HA.out.turn ((keeps_of_below HB1.out).on _) (fun b h hb => .inl ⟨h, hb⟩)) (fun b hb => .inr (by omega))).mono ?_
  rintro e w7 ⟨A7, len7, cap7, rfl, hr7, hb7⟩
  have HR7 := Lib.hid hr7
  have HB7 := Lib.hid hb7
  have hs7 := hb7.size
  clear hr7 hb7
  dsimp only
  refine hK.out _ _ ?_ (fun hHeld => ?_)
  · exact (keeps_of_below HB7.out).on _
  clear hK K
  try simp only [Act.put, List.setIfInBounds_toArray, List.set_cons_zero, List.set_cons_succ]
  clear hHeld
  refine wpAnyH_ready (rs := [9]) (by kernel_rfl) (by simp) ?_
  refine AllReadyH.cons (o := ({ dst := some 21, op := Op.call { callee := Callee.invoke (Operand.tmp 20) "WithAttrs", args := #[Operand.tmp 18], argTypes := #[113] }, type := 135, pos := "logger.go:33", after := #[{ on := 8, ground := Ground.data }, { on := 6, ground := Ground.data }, { on := 6, ground := Ground.chain }], guard := none } : Oper)) rfl (fun K hK => ?_) AllReadyH.nil
  go_simp
  refine (CW.out _ w7 A7 len7 cap7 ((HE.out.below HB1.out).below HB7.out) HR7.out).mono ?_
  rintro e w8 ⟨rfl, v8, hE8, hT8, hN8⟩
  have q8 : w8.cell? ⟨w.heap.size, 0, none⟩ = some (.iface 95 (.agg #[.int .i64 min, .bool false, .pointer (some ⟨c, 0, none⟩)])) := (hT8.cell (by omega) (by omega) (fun e => by have := hug _ e.symm; omega)).trans ((keeps_of_below HB7.out).cell k1)
  have z8 : w8.frozen? ⟨w.heap.size, 0, none⟩ = false := (hT8.frozen (by omega) (by omega) (fun e => by have := hug _ e.symm; omega)).trans ((HB7.out.frozen (p := ⟨w.heap.size, 0, none⟩) s1).trans f1)
  have H8 := Lib.hid (And.intro hE8 (And.intro hT8 hN8))
  clear hE8 hT8 hN8
  dsimp only
  refine hK.out _ _ ?_ (fun hHeld => ?_)
  · exact ((keeps_of_below HB7.out).on _).trans (H8.out.2.1.keepsOn (fun b hb => by rw [hb]; exact HLG.out.1) (fun b hb => by rw [hb]; exact HLG.out.2))
  clear hK K
  try simp only [Act.put, List.setIfInBounds_toArray, List.set_cons_zero, List.set_cons_succ]
  have hH := hHeld
  refine wpAnyH_take (i := 10) (oi := ({ dst := some 22, op := Op.nilCheck (Operand.tmp 12), type := 0, pos := "logger.go:33", after := #[{ on := 0, ground := Ground.data }, { on := 0, ground := Ground.phase }, { on := 1, ground := Ground.phase }, { on := 2, ground := Ground.phase }, { on := 3, ground := Ground.phase }, { on := 4, ground := Ground.phase }, { on := 5, ground := Ground.phase }, { on := 6, ground := Ground.phase }, { on := 7, ground := Ground.phase }, { on := 8, ground := Ground.phase }, { on := 9, ground := Ground.phase }], guard := none } : Oper)) (v := .pointer (some ⟨w.heap.size, 0, none⟩)) rfl (by kernel_rfl) (by kernel_rfl) (by kernel_rfl) (fun _ _ _ h => h) (Or.inl ⟨by rfl, fun w' hS => by clear k1 f1 kl q8 z8; go_simp⟩) hH ?_
  try simp only [Act.put, List.setIfInBounds_toArray, List.set_cons_zero, List.set_cons_succ]
  refine wpAnyH_take (i := 11) (oi := ({ dst := some 23, op := Op.fieldAddr 165 (Operand.tmp 22) 0, type := 0, pos := "logger.go:33", after := #[{ on := 10, ground := Ground.data }, { on := 0, ground := Ground.phase }, { on := 1, ground := Ground.phase }, { on := 2, ground := Ground.phase }, { on := 3, ground := Ground.phase }, { on := 4, ground := Ground.phase }, { on := 5, ground := Ground.phase }, { on := 6, ground := Ground.phase }, { on := 7, ground := Ground.phase }, { on := 8, ground := Ground.phase }, { on := 9, ground := Ground.phase }], guard := none } : Oper)) (v := .pointer (some ⟨w.heap.size, 0, none⟩)) rfl (by kernel_rfl) (by kernel_rfl) (by kernel_rfl) (fun _ _ _ h => h) (Or.inl ⟨by rfl, fun w' hS => by clear k1 f1 kl q8 z8; go_simp⟩) hH ?_
  try simp only [Act.put, List.setIfInBounds_toArray, List.set_cons_zero, List.set_cons_succ]
  have hw : w8.setCell ⟨w.heap.size, 0, none⟩ (.iface 95 (.agg #[.int .i64 min, .bool false, .pointer (some ⟨c, 0, none⟩)])) = w8 := set_self q8
  have HW := Lib.hid hw
  clear hw
  refine wpAnyH_ready (rs := [12]) (by kernel_rfl) (by simp) ?_
  refine AllReadyH.cons (o := ({ dst := none, op := Op.store 135 (Operand.tmp 23) (Operand.tmp 21), type := 0, pos := "logger.go:33", after := #[{ on := 11, ground := Ground.data }, { on := 9, ground := Ground.data }, { on := 9, ground := Ground.chain }, { on := 0, ground := Ground.phase }, { on := 1, ground := Ground.phase }, { on := 2, ground := Ground.phase }, { on := 3, ground := Ground.phase }, { on := 4, ground := Ground.phase }, { on := 5, ground := Ground.phase }, { on := 6, ground := Ground.phase }, { on := 7, ground := Ground.phase }, { on := 8, ground := Ground.phase }, { on := 9, ground := Ground.phase }], guard := none } : Oper)) rfl (fun K hK => ?_) AllReadyH.nil
  go_simp
  refine hK.out _ _ ?_ (fun hHeld => ?_)
  · exact by rw [HW.out]; exact hH
  clear hK K
  try simp only [Act.put, List.setIfInBounds_toArray, List.set_cons_zero, List.set_cons_succ]
  refine wpAnyH_done (by kernel_rfl) ?_ _
  go_wp2
  rw [HQ.out]
  refine ⟨w.heap.size, v8, rfl, ?_, by omega, newRow_ne H8.out.2.2 (by omega) (fun e => by have := hug _ e.symm; omega), ?_, ?_, H8.out.2.2.mono (by omega)⟩
  · rw [HW.out]; exact q8
  · rw [HW.out]; exact H8.out.1
  · rw [HW.out]; exact ((Two.of_below HB1.out).below HB7.out).then H8.out.2.1

end Go.Proofs.YtihhgnbgejjijaaGreatDoor.Va
