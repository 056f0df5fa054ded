/- The handler that notes what it is asked (impl.keeper): Enabled, Handle: the walks. -/
import Derived.Test.YtihhgnbgejjijaaGreatDoorAttrsIn
import Derived.Deep.RegionLaw
import Derived.Deep.AppendLies
import Derived.Deep.MidRow
namespace Go.Proofs.YtihhgnbgejjijaaGreatDoor.Va
set_option linter.unusedVariables false
set_option linter.unusedSimpArgs false
open Go Go.RowKit

theorem infoEvent : (Tryz.prog.info? 101).map (fun i => (i.zero, i.size, i.bytes)) = some (some (.agg #[.int .i64 0, .int .i64 0, .bool false, .string ByteArray.empty, .string ByteArray.empty, .slice none 0 0]), 6, 80) := by kernel_rfl
/-- A variable that holds a row of events of its own. -/
def EvU (c : Nat) (u : Value) (n : Nat) (xs : List Value) (w : World) : Prop := w.cell? ⟨c, 0, none⟩ = some u ∧ w.frozen? ⟨c, 0, none⟩ = false ∧ w.ownsRow (c + 1) 101 6 u n xs
/-- An event more. -/
def EvEnd (c : Nat) (u : Value) (n : Nat) (xs new : List Value) (r : Value) (w : World) (e : Ending) (w' : World) : Prop :=
  e = .returned r ∧ ∃ v, EvU c v (n + 1) (xs ++ new) w' ∧ Two c u.ownBlock w w' ∧ NewRow u v w

set_option maxRecDepth 100000 in
set_option maxHeartbeats 1000000 in
/-- (keeper).Enabled. -/
theorem enabled_any (min lvl : Int) (fails : Bool) (ctx : Value) (c : Nat) (u : Value) (n : Nat) (xs : List Value) (w : World) (h : EvU c u n xs w) (hn : n < 300000) :
    Calls Tryz.prog 245 #[.agg #[.int .i64 min, .bool fails, .pointer (some ⟨c, 0, none⟩)], ctx, .int .i64 lvl] w
      (EvEnd c u n xs [.int .i64 0, .int .i64 lvl, .bool (decide (min ≤ lvl)), .string ByteArray.empty, .string ByteArray.empty, .slice none 0 0] (.bool (decide (min ≤ lvl))) w) := by
  obtain ⟨i0, hi, hz0, hz1, hz2⟩ := info_parts infoEvent
  obtain ⟨hc, hf, hown⟩ := h
  have hcl : c < w.heap.size := World.block_lt_of_cell? w _ hc
  have hcl1 : c < w.heap.size + 1 := by omega
  have hcn : c ≠ w.heap.size := by omega
  have hcn2 : ¬ w.heap.size = c := by omega
  have HO := Lib.hid hown
  have HC := Lib.hid (And.intro hc hf)
  have HLT := Lib.hid (fun g hg => (hown.lt g hg).2)
  have HLO := Lib.hid (fun g hg => (hown.lt g hg).1)
  clear hown
  obtain ⟨Q, hQ⟩ : ∃ Q : Ending → World → Prop, Q = EvEnd c u n xs [.int .i64 0, .int .i64 lvl, .bool (decide (min ≤ lvl)), .string ByteArray.empty, .string ByteArray.empty, .slice none 0 0] (.bool (decide (min ≤ lvl))) w := ⟨_, rfl⟩
  rw [← hQ]
  have HQ := Lib.hid hQ
  clear hQ
  go_enter Tryz.func245, Tryz.ntmps245
  go_wp2_with fail
  go_region_law (first
    | (refine step_append_lies _ rfl (.tmp 17) (.tmp 21) 63 rfl (c + 1) 101 i0 _ 6 80 Tryz.underlying63 hi hz0 hz1 hz2 rfl (by decide) _ n xs rfl (((HO.out.alloc _).drew).alloc _) ⟨_, 0, none⟩ 1 1 [.int .i64 0, .int .i64 lvl, .bool (decide (min ≤ lvl)), .string ByteArray.empty, .string ByteArray.empty, .slice none 0 0] rfl rfl (by intro j u hj; exact cells_new _ _ _ _ (by simp) j u hj) (by intro u hu; simp at hu; rcases hu with rfl | rfl | rfl | rfl | rfl; all_goals rfl) (by decide) (by unfold maxLen; omega) (by omega) (by simp; omega) _ rfl ?_; intro g cap3 w3 hown3 hgrow3 hat3 hlt3; have hc3 : ∀ o', w3.cell? ⟨w.heap.size, o', none⟩ = _ := (fun o' => World.cell?_of_block (a := ⟨w.heap.size, o', none⟩) (hgrow3.block w.heap.size (by simp; omega) (fun e => by have := HLT.out _ e.symm; omega))); have hb3 := hgrow3.block c (by simp; omega) (fun e => by have := HLO.out _ e.symm; omega); have hd3 : w3.cell? ⟨c, 0, none⟩ = some u := ((World.cell?_of_block (a := ⟨c, 0, none⟩) hb3).trans (by simp [go_sem, hcl, hcl1, HC.out.1])); have hf3 : w3.frozen? ⟨c, 0, none⟩ = false := ((World.frozen?_of_block (a := ⟨c, 0, none⟩) hb3).trans (by simp [go_sem, hcl, hcl1, HC.out.2])); have HO3 := Lib.hid hown3; have HG3 := Lib.hid hgrow3; have HA3 := Lib.hid hat3; have HT3 := Lib.hid hlt3; clear hown3 hgrow3 hat3 hlt3))
  all_goals
    go_wp2
    rw [HQ.out]
    have HG : World.grownBy _ w3 u.ownBlock := HG3.out
    have HA : u.ownBlock = some g ∨ _ := HA3.out
    refine ⟨rfl, .slice (some ⟨g, 0, none⟩) (n + 1) cap3, ⟨World.cell?_setCell_same _ _ _ hd3, by rw [World.frozen?_setCell]; exact hf3, ownsRow_setCell_below HO3.out (Nat.lt_succ_self _) _⟩, (((((Two.refl c _ w).alloc _).drew).alloc _).then (Two.of_grown HG)).set 0 _, ?_⟩
    rcases HA with h | h
    · exact .inl h.symm
    · exact .inr ⟨g, rfl, by simp at h; omega⟩

end Go.Proofs.YtihhgnbgejjijaaGreatDoor.Va

/- A Logger (package slog): New, Handler, Enabled, zzNow, NewRecord: the walks. -/
namespace Go.Proofs.YtihhgnbgejjijaaGreatDoor.Va
set_option linter.unusedVariables false
set_option linter.unusedSimpArgs false
open Go Go.RowKit

theorem meth_enabled (k : Nat) (v : Value) (w : World) : (method (k + 1) 95 v "Enabled").run Tryz.prog w = .ok (245, v) w := by kernel_rfl
theorem meth_handle (k : Nat) (v : Value) (w : World) : (method (k + 1) 95 v "Handle").run Tryz.prog w = .ok (246, v) w := by kernel_rfl
theorem EvU.below {c : Nat} {u : Value} {n : Nat} {xs : List Value} {w w' : World} (h : EvU c u n xs w) (hb : Below w.heap.size w w') : EvU c u n xs w' := by
  have hl : c < w.heap.size := World.block_lt_of_cell? w _ h.1
  exact ⟨(keeps_of_below hb).cell h.1, (hb.frozen (p := ⟨c, 0, none⟩) hl).trans h.2.1, own_below h.2.2 hb⟩

set_option maxRecDepth 100000 in
set_option maxHeartbeats 400000 in
/-- slog.New. -/
theorem new_any (t : TypeId) (v : Value) (w : World) : Calls Tryz.prog 58 #[.iface t v] w fun e w' => e = .returned (.pointer (some ⟨w.heap.size, 0, none⟩)) ∧ w' = w.alloc (.cells #[.iface t v] 165) := by
  go_enter Tryz.func58, Tryz.ntmps58
  go_wp2
  go_ret
  exact ⟨rfl, rfl⟩

set_option maxRecDepth 100000 in
set_option maxHeartbeats 400000 in
/-- Logger.Handler. -/
theorem handler_any (lg : Nat) (h : Value) (w : World) (hc : w.cell? ⟨lg, 0, none⟩ = some h) : Calls Tryz.prog 121 #[.pointer (some ⟨lg, 0, none⟩)] w fun e w' => e = .returned h ∧ Below w.heap.size w w' := by
  go_enter Tryz.func121, Tryz.ntmps121
  go_wp2
  go_ret
  exact ⟨rfl, Below.refl _ _⟩

set_option maxRecDepth 100000 in
set_option maxHeartbeats 400000 in
/-- zzNow. -/
theorem now_any (w : World) : Calls Tryz.prog 158 #[] w fun e w' => e = .returned (.agg #[.int .i64 (-62135596800), .int .i64 0, .int .i64 0, .string ByteArray.empty]) ∧ Below w.heap.size w w' := by
  go_enter Tryz.func158, Tryz.ntmps158
  go_wp2
  exact bodyPost_ret (v := .agg #[.int .i64 (-62135596800), .int .i64 0, .int .i64 0, .string ByteArray.empty]) (by simp [results, Tryz.results158, go_sem]; rfl) rfl ⟨rfl, (by repeat' (first | with_reducible assumption | with_reducible exact Below.refl _ _ | with_reducible refine Below.setCell ?_ ?_ _ | with_reducible refine Below.alloc ?_ ?_ _ | with_reducible refine Below.drew ?_ | with_reducible refine below_drewN ?_ _ | omega | (simp; done) | (simp; omega)))⟩

set_option maxRecDepth 100000 in
set_option maxHeartbeats 1000000 in
/-- Logger.Enabled. -/
theorem lenabled_any (lg : Nat) (min lvl : Int) (fails : Bool) (bg : ByteArray) (c : Nat) (u : Value) (n : Nat) (xs : List Value) (w : World) (h : EvU c u n xs w) (hn : n < 300000)
    (hl : w.cell? ⟨lg, 0, none⟩ = some (.iface 95 (.agg #[.int .i64 min, .bool fails, .pointer (some ⟨c, 0, none⟩)]))) :
    Calls Tryz.prog 88 #[.pointer (some ⟨lg, 0, none⟩), .iface 9 (.string bg), .int .i64 lvl] w
      (EvEnd c u n xs [.int .i64 0, .int .i64 lvl, .bool (decide (min ≤ lvl)), .string ByteArray.empty, .string ByteArray.empty, .slice none 0 0] (.bool (decide (min ≤ lvl))) w) := by
  obtain ⟨Q, hQ⟩ : ∃ Q : Ending → World → Prop, Q = EvEnd c u n xs [.int .i64 0, .int .i64 lvl, .bool (decide (min ≤ lvl)), .string ByteArray.empty, .string ByteArray.empty, .slice none 0 0] (.bool (decide (min ≤ lvl))) w := ⟨_, rfl⟩
  rw [← hQ]
  have HQ := Lib.hid hQ
  have HE := Lib.hid (fun wx (hb : Below w.heap.size w wx) => enabled_any min lvl fails (.iface 9 (.string bg)) c u n xs wx (h.below hb) hn)
  clear hQ h
  have mv := meth_enabled
  unfold EvEnd at HE
  go_enter Tryz.func88, Tryz.ntmps88
  go_wp2_with (first
    | (go_at_call 121; (refine (handler_any lg _ _ hl).mono ?_); rintro e w1 ⟨rfl, hb1⟩; have HB1 := Lib.hid hb1; clear hb1)
    | (go_at_call 245; (refine (HE.out _ HB1.out).mono ?_); rintro e w2 ⟨rfl, v2, hv2, hT2, hN2⟩; have H2 := Lib.hid (And.intro hv2 (And.intro hT2 hN2)); clear hv2 hT2 hN2))
  rw [HQ.out]
  exact ⟨rfl, v2, H2.out.1, (Two.of_below HB1.out).then H2.out.2.1, by
    rcases H2.out.2.2 with e | ⟨g, e, hg⟩
    · exact .inl e
    · exact .inr ⟨g, e, Nat.le_trans HB1.out.size hg⟩⟩

end Go.Proofs.YtihhgnbgejjijaaGreatDoor.Va

/- slog.NewRecord: the walk. -/
namespace Go.Proofs.YtihhgnbgejjijaaGreatDoor.Va
set_option linter.unusedVariables false
set_option linter.unusedSimpArgs false
open Go Go.RowKit

/-- The cells of a record without attributes. -/
def rcNew (sec nsec off : Int) (zone msg : ByteArray) (lvl : Int) (pc : Value) : Nat → Value
  | 0 => .int .i64 sec
  | 1 => .int .i64 nsec
  | 2 => .int .i64 off
  | 3 => .string zone
  | 4 => .string msg
  | 5 => .int .i64 lvl
  | 6 => pc
  | 7 => .string ByteArray.empty
  | 8 => .int .u64 0
  | 9 => .nilIface
  | 10 => .string ByteArray.empty
  | 11 => .int .u64 0
  | 12 => .nilIface
  | 13 => .string ByteArray.empty
  | 14 => .int .u64 0
  | 15 => .nilIface
  | 16 => .string ByteArray.empty
  | 17 => .int .u64 0
  | 18 => .nilIface
  | 19 => .string ByteArray.empty
  | 20 => .int .u64 0
  | 21 => .nilIface
  | _ => .nilIface

theorem below_cells {B b : Nat} {a : World} (hb : B ≤ b) : ∀ (vs : List Value) (o : Nat) (w : World), Below B a w → Below B a (w.setCells b o vs)
  | [], _, _, h => h
  | v :: r, o, w, h => below_cells hb r (o + 1) _ (h.setCell hb v)
theorem there_new (w : World) (cs : List Value) (t : TypeId) (g n : Nat) (hg : g = w.heap.size) (hn : n = cs.length) : (w.alloc (.cells cs.toArray t)).there g 0 n := fun j hj => by
  subst hg hn
  rw [Nat.zero_add]
  refine ⟨?_, ?_⟩
  · rw [cell_new w _ _ _ j cs[j] rfl (by simp [hj])]; rfl
  · simp [go_sem]

set_option maxRecDepth 100000 in
set_option maxHeartbeats 1000000 in
/-- slog.NewRecord. -/
theorem newRec_any (sec nsec off : Int) (zone msg : ByteArray) (lvl : Int) (pc : Option Addr) (w : World) :
    Calls Tryz.prog 62 #[.agg #[.int .i64 sec, .int .i64 nsec, .int .i64 off, .string zone], .int .i64 lvl, .string msg, .pointer pc] w fun e w' =>
      e = .returned (vRec (rcNew sec nsec off zone msg lvl (.pointer pc)) 0 (.slice none 0 0)) ∧ Below w.heap.size w w' := by
  have HT := Lib.hid (there_new (w.alloc (.cells #[.int .i64 sec, .int .i64 nsec, .int .i64 off, .string zone] 105)) [.int .i64 0, .int .i64 0, .int .i64 0, .string ByteArray.empty, .string ByteArray.empty, .int .i64 0, .pointer none, .string ByteArray.empty, .int .u64 0, .nilIface, .string ByteArray.empty, .int .u64 0, .nilIface, .string ByteArray.empty, .int .u64 0, .nilIface, .string ByteArray.empty, .int .u64 0, .nilIface, .string ByteArray.empty, .int .u64 0, .nilIface, .int .i64 0, .slice none 0 0] 115 (w.heap.size + 1) 24 (by simp) rfl)
  go_enter Tryz.func62, Tryz.ntmps62
  go_wp2_with (first
    | (refine wpList_store_mid rfl 115 (.tmp 8) (.tmp 13) rfl (w.heap.size + 1) 0 #[.int .i64 sec, .int .i64 nsec, .int .i64 off, .string zone, .string msg, .int .i64 lvl, .pointer pc, .string ByteArray.empty, .int .u64 0, .nilIface, .string ByteArray.empty, .int .u64 0, .nilIface, .string ByteArray.empty, .int .u64 0, .nilIface, .string ByteArray.empty, .int .u64 0, .nilIface, .string ByteArray.empty, .int .u64 0, .nilIface, .int .i64 0, .slice none 0 0] rfl rfl HT.out (by kernel_rfl) (by simp [Value.oneCell']) ?_))
  have hr := run_loadVar_mid (P := Tryz.prog) _ (w.heap.size + 1) 0 115 [.int .i64 sec, .int .i64 nsec, .int .i64 off, .string zone, .string msg, .int .i64 lvl, .pointer pc, .string ByteArray.empty, .int .u64 0, .nilIface, .string ByteArray.empty, .int .u64 0, .nilIface, .string ByteArray.empty, .int .u64 0, .nilIface, .string ByteArray.empty, .int .u64 0, .nilIface, .string ByteArray.empty, .int .u64 0, .nilIface, .int .i64 0, .slice none 0 0] _ (World.rangeAt_setCells_same _ _ _ _ HT.out) Tryz.underlying115 rfl (by kernel_rfl)
  refine bodyPost_ret (v := .agg #[.int .i64 sec, .int .i64 nsec, .int .i64 off, .string zone, .string msg, .int .i64 lvl, .pointer pc, .string ByteArray.empty, .int .u64 0, .nilIface, .string ByteArray.empty, .int .u64 0, .nilIface, .string ByteArray.empty, .int .u64 0, .nilIface, .string ByteArray.empty, .int .u64 0, .nilIface, .string ByteArray.empty, .int .u64 0, .nilIface, .int .i64 0, .slice none 0 0]) ?_ rfl ⟨rfl, ?_⟩
  · simp [results, Tryz.results62, asAddr, Act.put]; exact hr
  · exact below_cells (by omega) _ _ _ (((Below.refl _ _).alloc (Nat.le_refl _) _).alloc (by simp) _)

end Go.Proofs.YtihhgnbgejjijaaGreatDoor.Va
