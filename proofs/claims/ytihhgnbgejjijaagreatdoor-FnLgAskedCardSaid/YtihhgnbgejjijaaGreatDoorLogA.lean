/- Logger.logAttrs and LogAttrs: the walks. -/
import Derived.Test.YtihhgnbgejjijaaGreatDoorLog
import Derived.Test.YtihhgnbgejjijaaGreatDoorAddAt
namespace Go.Proofs.YtihhgnbgejjijaaGreatDoor.Va
set_option linter.unusedVariables false
set_option linter.unusedSimpArgs false
open Go Go.RowKit

set_option maxRecDepth 100000 in
set_option maxHeartbeats 1000000 in
/-- (*Logger).logAttrs, not enabled. -/
theorem logA_no (lg : Nat) (ctx : Value) (hctx : ctx = .nilIface ∨ ∃ bg, ctx = .iface 9 (.string bg)) (min lvl : Int) (c : Nat) (u : Value) (l : List GEv) (msg : ByteArray) (args : Value) (w : World) (h : EvR c u l w) (hn : l.length < 299998)
    (hl : w.cell? ⟨lg, 0, none⟩ = some (.iface 95 (.agg #[.int .i64 min, .bool false, .pointer (some ⟨c, 0, none⟩)]))) (hle : ¬ min ≤ lvl) :
    Calls Tryz.prog 120 #[.pointer (some ⟨lg, 0, none⟩), ctx, .int .i64 lvl, .string msg, args] w (EvPost c u (l ++ [evAsk min lvl]) (.tuple #[]) w) := by
  obtain ⟨Q, hQ⟩ : ∃ Q : Ending → World → Prop, Q = EvPost c u (l ++ [evAsk min lvl]) (.tuple #[]) w := ⟨_, rfl⟩
  rw [← hQ]
  have HQ := Lib.hid hQ
  have CE := Lib.hid (fun bg => lenabled_ev lg min lvl false bg c u l w h (by omega) hl)
  unfold EvPost at CE
  rw [decide_eq_false hle] at CE
  clear hQ h hn hl
  rcases hctx with rfl | ⟨bg, rfl⟩
  all_goals
    go_enter Tryz.func120, Tryz.ntmps120
    go_wp2_with (go_at_call 88; (with_reducible refine (CE.out _).mono ?_); rintro e w1 ⟨rfl, v1, hE1, hT1, hN1⟩; have H1 := Lib.hid (And.intro hE1 (And.intro hT1 hN1)); clear hE1 hT1 hN1)
    refine bodyPost_ret (v := .tuple #[]) (by simp [results, Tryz.results120, go_sem]) rfl ?_
    rw [HQ.out]
    exact ⟨rfl, v1, H1.out⟩

set_option maxRecDepth 100000 in
set_option maxHeartbeats 2000000 in
/-- (*Logger).logAttrs, enabled. -/
theorem logA_yes {P : Nat → Prop} (lg : Nat) (ctx : Value) (hctx : ctx = .nilIface ∨ ∃ bg, ctx = .iface 9 (.string bg)) (min lvl : Int) (c : Nat) (u : Value) (l : List GEv) (al : SAttrs) (msg : ByteArray) (w : World) (A : Option Addr) (len cap : Nat)
    (h : EvR c u l w) (hn : l.length < 299998) (hl : w.cell? ⟨lg, 0, none⟩ = some (.iface 95 (.agg #[.int .i64 min, .bool false, .pointer (some ⟨c, 0, none⟩)]))) (hlg : lg ≠ c ∧ some lg ≠ u.ownBlock) (hle : min ≤ lvl) (ha : RSS P w al A len) (hlc : len ≤ cap)
    (hlen : al.len ≤ 299999) (hsz : vSizeAll al.full ≤ 700000) (hPr : ∀ b, P b → b < w.heap.size → b ≠ c ∧ some b ≠ u.ownBlock) :
    Calls Tryz.prog 120 #[.pointer (some ⟨lg, 0, none⟩), ctx, .int .i64 lvl, .string msg, .slice A len cap] w (EvPost c u (l ++ [evAsk min lvl, ⟨3, lvl, false, ByteArray.empty, msg, attrsTold al.full⟩]) (.tuple #[]) w) := by
  obtain ⟨Q, hQ⟩ : ∃ Q : Ending → World → Prop, Q = EvPost c u (l ++ [evAsk min lvl, ⟨3, lvl, false, ByteArray.empty, msg, attrsTold al.full⟩]) (.tuple #[]) w := ⟨_, rfl⟩
  rw [← hQ]
  have HQ := Lib.hid hQ
  have CE := Lib.hid (fun bg => lenabled_ev lg min lvl false bg c u l w h (by omega) hl)
  unfold EvPost at CE
  rw [decide_eq_true hle] at CE
  have hlgl : lg < w.heap.size := World.block_lt_of_cell? w _ hl
  have HPr := Lib.hid hPr
  have HA := Lib.hid ha
  have HS := Lib.hid (And.intro hlc (And.intro hlen (And.intro hsz hn)))
  have HLG := Lib.hid (And.intro hl hlg)
  have mh := meth_handle
  clear hQ h hn hl hlg ha hlc hlen hsz hPr
  rcases hctx with rfl | ⟨bg, rfl⟩
  all_goals
    go_enter Tryz.func120, Tryz.ntmps120
    go_wp2_with (first
      | (go_at_call 88; (with_reducible refine (CE.out _).mono ?_); rintro e w1 ⟨rfl, v1, hE1, hT1, hN1⟩; have H1 := Lib.hid (And.intro hE1 (And.intro hT1 hN1)); have hs1 := hT1.size; clear hE1 hT1 hN1)
      | (go_at_call 158; refine (now_any _).mono ?_; rintro e w2 ⟨rfl, hb2⟩; have HB2 := Lib.hid hb2; have hs2 := hb2.size; clear hb2)
      | (go_at_call 62; refine (newRec_any _ _ _ _ _ _ _ _).mono ?_; rintro e w3 ⟨rfl, hb3⟩; have HB3 := Lib.hid hb3; have hs3 := hb3.size; clear hb3; have HTH := Lib.hid (there_new w3 [.int .i64 0, .int .i64 0, .int .i64 0, .string ⟨#[]⟩, .string ⟨#[]⟩, .int .i64 0, .pointer none, .string ⟨#[]⟩, .int .u64 0, .nilIface, .string ⟨#[]⟩, .int .u64 0, .nilIface, .string ⟨#[]⟩, .int .u64 0, .nilIface, .string ⟨#[]⟩, .int .u64 0, .nilIface, .string ⟨#[]⟩, .int .u64 0, .nilIface, .int .i64 0, .slice none 0 0] 115 w3.heap.size 24 rfl rfl); unfold vRec rcNew)
      | (refine wpList_store_mid rfl 115 (.tmp 11) (.tmp 24) rfl w3.heap.size 0 #[.int .i64 (-62135596800), .int .i64 0, .int .i64 0, .string ByteArray.empty, .string msg, .int .i64 lvl, .pointer none, .string ByteArray.empty, .int .u64 0, .nilIface, .string ByteArray.empty, .int .u64 0, .nilIface, .string ByteArray.empty, .int .u64 0, .nilIface, .string ByteArray.empty, .int .u64 0, .nilIface, .string ByteArray.empty, .int .u64 0, .nilIface, .int .i64 0, .slice none 0 0] rfl rfl HTH.out (by kernel_rfl) (by simp [Value.oneCell']) ?_; have hR5 := recu_new w3 lvl msg (.pointer none) (-62135596800) 0 0 ByteArray.empty w3.heap.size rfl 115 [.int .i64 0, .int .i64 0, .int .i64 0, .string ⟨#[]⟩, .string ⟨#[]⟩, .int .i64 0, .pointer none, .string ⟨#[]⟩, .int .u64 0, .nilIface, .string ⟨#[]⟩, .int .u64 0, .nilIface, .string ⟨#[]⟩, .int .u64 0, .nilIface, .string ⟨#[]⟩, .int .u64 0, .nilIface, .string ⟨#[]⟩, .int .u64 0, .nilIface, .int .i64 0, .slice none 0 0] rfl; have hB5 : Below w3.heap.size w3 ((w3.alloc (.cells [.int .i64 0, .int .i64 0, .int .i64 0, .string ⟨#[]⟩, .string ⟨#[]⟩, .int .i64 0, .pointer none, .string ⟨#[]⟩, .int .u64 0, .nilIface, .string ⟨#[]⟩, .int .u64 0, .nilIface, .string ⟨#[]⟩, .int .u64 0, .nilIface, .string ⟨#[]⟩, .int .u64 0, .nilIface, .string ⟨#[]⟩, .int .u64 0, .nilIface, .int .i64 0, .slice none 0 0].toArray 115)).setCells w3.heap.size 0 [.int .i64 (-62135596800), .int .i64 0, .int .i64 0, .string ByteArray.empty, .string msg, .int .i64 lvl, .pointer none, .string ByteArray.empty, .int .u64 0, .nilIface, .string ByteArray.empty, .int .u64 0, .nilIface, .string ByteArray.empty, .int .u64 0, .nilIface, .string ByteArray.empty, .int .u64 0, .nilIface, .string ByteArray.empty, .int .u64 0, .nilIface, .int .i64 0, .slice none 0 0]) := below_cells (Nat.le_refl _) _ _ _ ((Below.refl _ _).alloc (Nat.le_refl _) _); (try simp only [List.toList_toArray]); generalize (w3.alloc (.cells [.int .i64 0, .int .i64 0, .int .i64 0, .string ⟨#[]⟩, .string ⟨#[]⟩, .int .i64 0, .pointer none, .string ⟨#[]⟩, .int .u64 0, .nilIface, .string ⟨#[]⟩, .int .u64 0, .nilIface, .string ⟨#[]⟩, .int .u64 0, .nilIface, .string ⟨#[]⟩, .int .u64 0, .nilIface, .string ⟨#[]⟩, .int .u64 0, .nilIface, .int .i64 0, .slice none 0 0].toArray 115)).setCells w3.heap.size 0 [.int .i64 (-62135596800), .int .i64 0, .int .i64 0, .string ByteArray.empty, .string msg, .int .i64 lvl, .pointer none, .string ByteArray.empty, .int .u64 0, .nilIface, .string ByteArray.empty, .int .u64 0, .nilIface, .string ByteArray.empty, .int .u64 0, .nilIface, .string ByteArray.empty, .int .u64 0, .nilIface, .string ByteArray.empty, .int .u64 0, .nilIface, .int .i64 0, .slice none 0 0] = w5 at hR5 hB5 ⊢; have HR5 := Lib.hid hR5; have HB5 := Lib.hid hB5; have hs5 := hR5.lt; clear hR5 hB5 HTH)
      | (go_at_call 66; have hA5 := ((HA.out.turn (Q := fun b => P b ∧ b < w.heap.size) (KeepsOn.refl _ _) (fun b h hl => ⟨h, hl⟩)).turn (Q := fun b => P b ∧ b < w.heap.size) ((H1.out.2.1.keepsOn (fun b hb => (HPr.out b hb.1 hb.2).1) (fun b hb => (HPr.out b hb.1 hb.2).2)).trans (((keeps_of_below HB2.out).trans ((keeps_of_below HB3.out).trans (keeps_of_below HB5.out))).on _)) (fun b h _ => h)); (refine (addAttrs_any (P := fun b => P b ∧ b < w.heap.size) (w3.heap.size + 1) w3.heap.size 0 _ al w5 A len cap HR5.out hA5 HS.out.1 HS.out.2.1 (fun b hb => ⟨by omega, by omega⟩) (by omega)).mono ?_); clear hA5; rintro e w6 ⟨rfl, rc', f4, b4, v4, m4, ys4, hR6, hrc6, hf6, hfl6, hown6, hx6, hru6, hall6, hT6, hN6⟩; have hk6 : KeepsOn (fun b => P b ∧ b < w.heap.size) w5 w6 := hT6.keepsOn (fun b hb => by omega) (fun b hb e => by cases e); obtain ⟨A4, cap4, rfl, hrs6⟩ := rss_of_owns (Q := fun _ => True) hown6 (RSX.turn hk6 (fun _ h _ => h) b4 ys4 hx6) (fun _ _ => trivial) (fun _ _ => trivial); have HR6 := Lib.hid hR6; have HRC := Lib.hid hrc6; have HF6 := Lib.hid (And.intro (FrP.turn (Q := fun _ => True) hk6 (fun _ _ _ => trivial) f4 rc' 7 hf6) (And.intro hfl6 hrs6)); have hB6 : Below w1.heap.size w1 w6 := Two.under ((HB2.out.trans (HB3.out.mono hs2)).trans (HB5.out.mono (by omega))) (Nat.le_refl _) hT6 (by omega) (fun g hg => by cases hg); have HB6 := Lib.hid hB6; have hs6 := hB6.size; have HALL := Lib.hid hall6; have hz6 := hT6.size; clear hR6 hrc6 hf6 hfl6 hown6 hx6 hru6 hall6 hT6 hN6 hrs6 hB6 hk6))
    have hl6 : w6.drew.cell? ⟨lg, 0, none⟩ = some (.iface 95 (.agg #[.int .i64 min, .bool false, .pointer (some ⟨c, 0, none⟩)])) := (keeps_of_below HB6.out).cell ((H1.out.2.1.cell hlgl HLG.out.2.1 HLG.out.2.2).trans HLG.out.1)
    have KR := Lib.hid HR6.out.range
    refine wp_region_held_drew (S := fun w' => KeepsOn (fun b => b = w3.heap.size) w6 w') (by kernel_rfl) ((KeepsOn.refl _ _).drew) (fun hH => ?_)
    refine wpAnyH_take (i := 0) (oi := ({ dst := some 27, op := Op.move (Operand.tmp 0), type := 91, pos := "logger.go:162", after := #[], guard := none } : Oper)) (v := .pointer (some ⟨lg, 0, none⟩)) rfl (by kernel_rfl) (by kernel_rfl) (by kernel_rfl) (fun _ _ _ h => h) (Or.inl ⟨by rfl, fun w' hS => by clear hl6 mh; go_simp⟩) hH ?_
    try simp only [Act.put, List.setIfInBounds_toArray, List.set_cons_zero, List.set_cons_succ]
    refine wpAnyH_take (i := 2) (oi := ({ dst := some 29, op := Op.move (Operand.tmp 1), type := 20, pos := "logger.go:162", after := #[], guard := none } : Oper)) (v := .iface 9 (.string _)) rfl (by kernel_rfl) (by kernel_rfl) (by kernel_rfl) (fun _ _ _ h => h) (Or.inl ⟨by rfl, fun w' hS => rfl⟩) hH ?_
    try simp only [Act.put, List.setIfInBounds_toArray, List.set_cons_zero, List.set_cons_succ]
    refine wpAnyH_take (i := 3) (oi := ({ dst := some 30, op := Op.load 115 (Operand.tmp 11), type := 115, pos := "logger.go:162", after := #[], guard := none } : Oper)) rfl (by kernel_rfl) (by kernel_rfl) (by kernel_rfl) (fun _ _ _ h => h) (yieldsIf_load_mid (by rfl) 115 (.tmp 11) rfl w3.heap.size 0 rfl [rc' 0, rc' 1, rc' 2, rc' 3, rc' 4, rc' 5, rc' 6, rc' 7, rc' 8, rc' 9, rc' 10, rc' 11, rc' 12, rc' 13, rc' 14, rc' 15, rc' 16, rc' 17, rc' 18, rc' 19, rc' 20, rc' 21, .int .i64 f4.len, .slice A4 m4 cap4] _ (fun w' hS => fun j v hv => KeepsOn.cell hS rfl (KR.out j v hv)) Tryz.underlying115 rfl (by kernel_rfl)) hH ?_
    try simp only [Act.put, List.setIfInBounds_toArray, List.set_cons_zero, List.set_cons_succ]
    clear hH
    refine wpAnyH_ready (rs := [1]) (by kernel_rfl) (by simp) ?_
    refine AllReadyH.cons (o := ({ dst := some 28, op := Op.call { callee := Callee.value (Operand.func 121), args := #[Operand.tmp 27], argTypes := #[91] }, type := 135, pos := "logger.go:162", after := #[{ on := 0, ground := Ground.data }], guard := none } : Oper)) rfl (fun K hK => ?_) AllReadyH.nil
    go_simp
    refine (handler_any lg _ _ hl6).mono ?_
    rintro e w7 ⟨rfl, hb7⟩
    have HB7 := Lib.hid hb7
    clear hb7 hl6
    dsimp only
    refine hK.out _ _ ?_ (fun hHeld => ?_)
    · exact ((KeepsOn.refl _ _).drew).trans ((keeps_of_below HB7.out).on _)
    clear hK K hHeld
    try simp only [Act.put, List.setIfInBounds_toArray, List.set_cons_zero, List.set_cons_succ]
    have hB7 : Below w1.heap.size w1 w7 := HB6.out.drew.trans (HB7.out.mono (show w1.heap.size ≤ w6.drew.heap.size from hs6))
    have CH := Lib.hid (fun ctx => handle_any (P := fun _ => True) min lvl ctx c v1 (l ++ [evAsk min lvl]) f4 b4 rc' A4 m4 cap4 msg w7 (H1.out.1.below hB7) (by rw [List.length_append]; have := HS.out.2.2.2; simp; omega) (HRC.out 4 (by omega)) (HRC.out 5 (by omega)) (FrP.turn (((KeepsOn.refl _ _).drew).trans ((keeps_of_below HB7.out).on _)) (fun _ h _ => h) f4 rc' 7 HF6.out.1) HF6.out.2.1 (HF6.out.2.2.turn (((KeepsOn.refl _ _).drew).trans ((keeps_of_below HB7.out).on _)) (fun _ h _ => h)) (by rw [HALL.out]; exact HS.out.2.2.1) (by have h1 := congrArg SAttrs.len HALL.out; have h2 := slen_append f4 b4; have h3 := full_len al; have h6 := HS.out.2.1; omega))
    unfold vRec EvPost at CH
    have HB77 := Lib.hid hB7
    clear hB7
    refine wpAnyH_ready (rs := [4]) (by kernel_rfl) (by simp) ?_
    refine AllReadyH.cons (o := ({ dst := some 31, op := Op.call { callee := Callee.invoke (Operand.tmp 28) "Handle", args := #[Operand.tmp 29, Operand.tmp 30], argTypes := #[20, 115] }, type := 139, pos := "logger.go:162", after := #[{ on := 1, ground := Ground.data }, { on := 2, ground := Ground.data }, { on := 3, ground := Ground.data }, { on := 1, ground := Ground.chain }], guard := none } : Oper)) rfl (fun K hK => ?_) AllReadyH.nil
    go_simp
    refine (CH.out _).mono ?_
    rintro e w8 ⟨rfl, v8, hE8, hT8, hN8⟩
    have H8 := Lib.hid (And.intro hE8 (And.intro hT8 hN8))
    clear hE8 hT8 hN8 CH
    dsimp only
    refine hK.out _ _ ?_ (fun hHeld => ?_)
    · exact ((KeepsOn.refl _ _).drew).trans (((keeps_of_below HB7.out).on _).trans (H8.out.2.1.keepsOn (fun b hb => by have := H1.out.1.lt; omega) (fun b hb e => by have := H1.out.1.own b e.symm; omega)))
    clear hK K hHeld
    try simp only [Act.put, List.setIfInBounds_toArray, List.set_cons_zero, List.set_cons_succ]
    refine wpAnyH_done (by kernel_rfl) ?_ _
    go_wp2
    refine bodyPost_end (v := .tuple #[]) (by simp [results, Tryz.results120, go_sem]) rfl ?_
    rw [HQ.out]
    have hE := H8.out.1
    rw [List.append_assoc, show attrsTold (SAttrs.append f4 b4) = attrsTold al.full by rw [HALL.out]] at hE
    exact ⟨rfl, v8, hE, (H1.out.2.1.below HB77.out).trans H8.out.2.1 H1.out.2.2, H1.out.2.2.trans H8.out.2.2 (by have := HB77.out.size; omega)⟩

set_option maxRecDepth 100000 in
set_option maxHeartbeats 400000 in
/-- (*Logger).LogAttrs is logAttrs. -/
theorem LogA_any (lg ctx lvl msg args : Value) (w : World) (Q : Ending → World → Prop) (h : Calls Tryz.prog 120 #[lg, ctx, lvl, msg, args] w (fun e w' => e = .returned (.tuple #[]) ∧ Q e w')) :
    Calls Tryz.prog 83 #[lg, ctx, lvl, msg, args] w Q := by
  have H := Lib.hid h
  clear h
  go_enter Tryz.func83, Tryz.ntmps83
  go_wp2_with (go_at_call 120; (with_reducible refine H.out.mono ?_); rintro e w1 ⟨rfl, h1⟩; have H1 := Lib.hid h1; clear h1)
  exact bodyPost_end (v := .tuple #[]) (by simp [results, Tryz.results83, go_sem]) rfl H1.out

end Go.Proofs.YtihhgnbgejjijaaGreatDoor.Va
