/- What '==' of values of any type comes to: facts of this program. -/
import Derived.Test.YtcgdnjigocknbaaDoorFacts
import Derived.Laws.StructEq
import Derived.LaidEql
import Derived.Lib.IfaceEq
import Derived.Shelf.Abstract
namespace Go.Proofs.YtcgdnjigocknbaaDoor.Facts
set_option linter.unusedVariables false
set_option linter.unusedSimpArgs false
open Go Go.RowKit

section
variable {P : Program} (w : World)
theorem run_eql_ne {ti t t' : TypeId} {ms : Array (String × TypeId)} (v v' : Value) (hi : P.underlying ti = some (.interface ms)) (h : t ≠ t') : (binOp .eql ti (.iface t v) (.iface t' v')).run P w = .ok (.bool false) w := by
  have h : ∀ d : Nat, (Op.equalIn (d + 1) ti (.iface t v) (.iface t' v')).run P w = .ok false w := fun d => by simp [Op.equalIn, run_underlying hi, h]
  simp only [binOp]
  simp [Op.equal, Op.maxDepth, h 9999]
theorem run_eql_nil_right {ti t : TypeId} {ms : Array (String × TypeId)} (v : Value) (hi : P.underlying ti = some (.interface ms)) : (binOp .eql ti (.iface t v) .nilIface).run P w = .ok (.bool false) w := by
  have h : ∀ d : Nat, (Op.equalIn (d + 1) ti (.iface t v) .nilIface).run P w = .ok false w := fun d => by simp [Op.equalIn, run_underlying hi]
  simp only [binOp]
  simp [Op.equal, Op.maxDepth, h 9999]
theorem run_eql_nils {ti : TypeId} {ms : Array (String × TypeId)} (hi : P.underlying ti = some (.interface ms)) : (binOp .eql ti .nilIface .nilIface).run P w = .ok (.bool true) w := by
  have h : ∀ d : Nat, (Op.equalIn (d + 1) ti .nilIface .nilIface).run P w = .ok true w := fun d => by simp [Op.equalIn, run_underlying hi]
  simp only [binOp]
  simp [Op.equal, Op.maxDepth, h 9999]
theorem run_eql_same {ti t : TypeId} {ms : Array (String × TypeId)} {i : TypeInfo} {b : Bool} (v v' : Value) (hi : P.underlying ti = some (.interface ms)) (hn : P.info? t = some i) (hc : i.comparable = true) (hr : (Op.equalIn 9999 t v v').run P w = .ok b w) :
    (binOp .eql ti (.iface t v) (.iface t v')).run P w = .ok (.bool b) w := by
  have h : (Op.equalIn (9999 + 1) ti (.iface t v) (.iface t v')).run P w = .ok b w := by
    unfold Op.equalIn
    simp [run_underlying hi, typeInfo, hn, hc, hr]
  simp only [binOp]
  simp [Op.equal, Op.maxDepth, h]
theorem run_eql_panic {ti t : TypeId} {ms : Array (String × TypeId)} {i : TypeInfo} {s : String} (v v' : Value) (hi : P.underlying ti = some (.interface ms)) (hn : P.info? t = some i) (hc : i.comparable = false) (hh : P.holdsPacked P.depth t = false) (hs : (typeStr t).run P w = .ok s w) :
    (binOp .eql ti (.iface t v) (.iface t v')).run P w = .halt (.panic (.iface P.rt.errorString (strVal ("comparing uncomparable type " ++ s)))) w := by
  have h : (Op.equalIn (9999 + 1) ti (.iface t v) (.iface t v')).run P w = .halt (.panic (.iface P.rt.errorString (strVal ("comparing uncomparable type " ++ s)))) w := by
    unfold Op.equalIn
    simp [run_underlying hi, typeInfo, hn, hc, hh, hs, runtimePanic, run_program]
  simp only [binOp]
  simp [Op.equal, Op.maxDepth, h]
end

theorem eqNe (t t' : TypeId) (v v' : Value) (w : World) (h : t ≠ t') : (binOp .eql 20 (.iface t v) (.iface t' v')).run Tryd.prog w = .ok (.bool false) w := run_eql_ne w v v' Tryd.underlying20 h
theorem eqNilL (t : TypeId) (v : Value) (w : World) : (binOp .eql 20 .nilIface (.iface t v)).run Tryd.prog w = .ok (.bool false) w := run_eql_iface_nil_left w t v Tryd.underlying20
theorem eqNilR (t : TypeId) (v : Value) (w : World) : (binOp .eql 20 (.iface t v) .nilIface).run Tryd.prog w = .ok (.bool false) w := run_eql_nil_right w v Tryd.underlying20
theorem eqNil (w : World) : (binOp .eql 20 .nilIface .nilIface).run Tryd.prog w = .ok (.bool true) w := run_eql_nils w Tryd.underlying20

theorem beq_dec (s s' : ByteArray) : (s == s') = decide (s = s') := by
  rw [beq_toListBytes, ByteArray.toList_eq, ByteArray.toList_eq]
  obtain ⟨⟨l⟩⟩ := s
  obtain ⟨⟨l'⟩⟩ := s'
  by_cases h : l = l'
  · subst h; simp
  · have : ¬ (⟨⟨l⟩⟩ : ByteArray) = ⟨⟨l'⟩⟩ := fun e => h (by injection e with e; injection e)
    rw [decide_eq_false this]
    simpa using h

theorem eq9 (s s' : ByteArray) (w : World) : (Op.equalIn 9998 9 (.string s) (.string s')).run Tryd.prog w = .ok (decide (s = s')) w := by
  rw [show (9998 : Nat) = 9997 + 1 from rfl]
  unfold Op.equalIn
  simp [run_underlying Tryd.underlying9, beq_dec]
theorem eq3 (n m : Int) (t : TypeId) (ht : Tryd.prog.underlying t = some (.int .i64)) (w : World) : (Op.equalIn 9999 t (.int .i64 n) (.int .i64 m)).run Tryd.prog w = .ok (decide (n = m)) w := by
  rw [show (9999 : Nat) = 9998 + 1 from rfl]
  unfold Op.equalIn
  simp [run_underlying ht]
  by_cases h : n = m <;> simp [h]
theorem part9 (xs : Array Value) (o : Nat) (s : ByteArray) (w : World) (h : xs[o]? = some (.string s)) : (part 9 xs o).run Tryd.prog w = .ok (.string s) w := by
  have a9 : ∀ w, (isAgg 9).run Tryd.prog w = .ok false w := Go.Proofs.run_isAgg_plain Tryd.underlying9 rfl
  unfold part
  simp [a9, h]

theorem one_str (t : TypeId) {i : TypeInfo} {f : Field} (hS : Tryd.prog.underlying t = some (.struct #[f])) (hf0 : f.offset = 0) (hft : f.type = 9) (hfn : f.name ≠ "_") (hp : Tryd.prog.stoodInHeld t = false) (hn : Tryd.prog.info? t = some i) (hc : i.comparable = true) (s s' : ByteArray) (w : World) :
    (binOp .eql 20 (.iface t (.agg #[.string s])) (.iface t (.agg #[.string s']))).run Tryd.prog w = .ok (.bool (decide (s = s'))) w := by
  refine run_eql_same w _ _ Tryd.underlying20 hn hc ?_
  have hF : Tryd.prog.fieldsOf t = #[f] := by unfold Program.fieldsOf; rw [hS]
  rw [show (9999 : Nat) = 9998 + 1 from rfl, run_equalIn_struct w 9998 t _ _ (by rw [hF]; exact hS) hp, hF]
  simp only [Op.eqFields, if_pos hfn, hf0, hft, Sem.run_bind, (fun w => part9 #[.string s] 0 s w rfl), (fun w => part9 #[.string s'] 0 s' w rfl), eq9, Result.andThen_ok]
  by_cases h : s = s' <;> simp [h]
theorem two_str (t : TypeId) {i : TypeInfo} {f g : Field} (hS : Tryd.prog.underlying t = some (.struct #[f, g])) (hf0 : f.offset = 0) (hft : f.type = 9) (hfn : f.name ≠ "_") (hg0 : g.offset = 1) (hgt : g.type = 9) (hgn : g.name ≠ "_") (hp : Tryd.prog.stoodInHeld t = false) (hn : Tryd.prog.info? t = some i) (hc : i.comparable = true) (s s' u u' : ByteArray) (w : World) :
    (binOp .eql 20 (.iface t (.agg #[.string s, .string u])) (.iface t (.agg #[.string s', .string u']))).run Tryd.prog w = .ok (.bool (decide (s = s') && decide (u = u'))) w := by
  refine run_eql_same w _ _ Tryd.underlying20 hn hc ?_
  have hF : Tryd.prog.fieldsOf t = #[f, g] := by unfold Program.fieldsOf; rw [hS]
  rw [show (9999 : Nat) = 9998 + 1 from rfl, run_equalIn_struct w 9998 t _ _ (by rw [hF]; exact hS) hp, hF]
  have p1 := fun w => part9 #[.string s, .string u] 0 s w rfl
  have p2 := fun w => part9 #[.string s', .string u'] 0 s' w rfl
  have p3 := fun w => part9 #[.string s, .string u] 1 u w rfl
  have p4 := fun w => part9 #[.string s', .string u'] 1 u' w rfl
  simp only [Op.eqFields, if_pos hfn, if_pos hgn, hf0, hft, hg0, hgt, Sem.run_bind, p1, p2, eq9, Result.andThen_ok]
  by_cases h : s = s'
  · simp only [h, decide_true, Bool.not_true, Bool.false_eq_true, if_false, Sem.run_bind, Result.andThen_ok]
    subst h
    simp only [p3, p4, eq9, Result.andThen_ok]
    by_cases h2 : u = u' <;> simp [h2]
  · simp [h]
theorem one_int (t : TypeId) {i : TypeInfo} (ht : Tryd.prog.underlying t = some (.int .i64)) (hn : Tryd.prog.info? t = some i) (hc : i.comparable = true) (n m : Int) (w : World) :
    (binOp .eql 20 (.iface t (.int .i64 n)) (.iface t (.int .i64 m))).run Tryd.prog w = .ok (.bool (decide (n = m))) w := run_eql_same w _ _ Tryd.underlying20 hn hc (eq3 n m t ht w)

theorem eqZzError (s s' : ByteArray) (w : World) : (binOp .eql 20 (.iface 111 (.agg #[.string s])) (.iface 111 (.agg #[.string s']))).run Tryd.prog w = .ok (.bool (decide (s = s'))) w :=
  one_str _ Tryd.underlying111 rfl rfl (by decide) (by kernel_rfl) (i := (Tryd.prog.info? 111).getD default) (by kernel_rfl) (by kernel_rfl) s s' w
theorem eqZzStringer (s s' : ByteArray) (w : World) : (binOp .eql 20 (.iface 112 (.agg #[.string s])) (.iface 112 (.agg #[.string s']))).run Tryd.prog w = .ok (.bool (decide (s = s'))) w :=
  one_str _ Tryd.underlying112 rfl rfl (by decide) (by kernel_rfl) (i := (Tryd.prog.info? 112).getD default) (by kernel_rfl) (by kernel_rfl) s s' w
theorem eqZzText (s s' : ByteArray) (w : World) : (binOp .eql 20 (.iface 114 (.agg #[.string s])) (.iface 114 (.agg #[.string s']))).run Tryd.prog w = .ok (.bool (decide (s = s'))) w :=
  one_str _ Tryd.underlying114 rfl rfl (by decide) (by kernel_rfl) (i := (Tryd.prog.info? 114).getD default) (by kernel_rfl) (by kernel_rfl) s s' w
theorem eqZzFails (s s' : ByteArray) (w : World) : (binOp .eql 20 (.iface 115 (.agg #[.string s])) (.iface 115 (.agg #[.string s']))).run Tryd.prog w = .ok (.bool (decide (s = s'))) w :=
  one_str _ Tryd.underlying115 rfl rfl (by decide) (by kernel_rfl) (i := (Tryd.prog.info? 115).getD default) (by kernel_rfl) (by kernel_rfl) s s' w
theorem eqZzLacks (s s' : ByteArray) (w : World) : (binOp .eql 20 (.iface 120 (.agg #[.string s])) (.iface 120 (.agg #[.string s']))).run Tryd.prog w = .ok (.bool (decide (s = s'))) w :=
  one_str _ Tryd.underlying120 rfl rfl (by decide) (by kernel_rfl) (i := (Tryd.prog.info? 120).getD default) (by kernel_rfl) (by kernel_rfl) s s' w
theorem eqZzPanics (s s' : ByteArray) (w : World) : (binOp .eql 20 (.iface 121 (.agg #[.string s])) (.iface 121 (.agg #[.string s']))).run Tryd.prog w = .ok (.bool (decide (s = s'))) w :=
  one_str _ Tryd.underlying121 rfl rfl (by decide) (by kernel_rfl) (i := (Tryd.prog.info? 121).getD default) (by kernel_rfl) (by kernel_rfl) s s' w
theorem eqZzAppender (s s' u u' : ByteArray) (w : World) : (binOp .eql 20 (.iface 119 (.agg #[.string s, .string u])) (.iface 119 (.agg #[.string s', .string u']))).run Tryd.prog w = .ok (.bool (decide (s = s') && decide (u = u'))) w :=
  two_str _ Tryd.underlying119 rfl rfl (by decide) rfl rfl (by decide) (by kernel_rfl) (i := (Tryd.prog.info? 119).getD default) (by kernel_rfl) (by kernel_rfl) s s' u u' w
theorem eqZzBoth (s s' u u' : ByteArray) (w : World) : (binOp .eql 20 (.iface 127 (.agg #[.string s, .string u])) (.iface 127 (.agg #[.string s', .string u']))).run Tryd.prog w = .ok (.bool (decide (s = s') && decide (u = u'))) w :=
  two_str _ Tryd.underlying127 rfl rfl (by decide) rfl rfl (by decide) (by kernel_rfl) (i := (Tryd.prog.info? 127).getD default) (by kernel_rfl) (by kernel_rfl) s s' u u' w
theorem eqNZzNumber (n m : Int) (w : World) : (binOp .eql 20 (.iface 116 (.int .i64 n)) (.iface 116 (.int .i64 m))).run Tryd.prog w = .ok (.bool (decide (n = m))) w :=
  one_int _ Tryd.underlying116 (i := (Tryd.prog.info? 116).getD default) (by kernel_rfl) (by kernel_rfl) n m w
theorem eqNLevel (n m : Int) (w : World) : (binOp .eql 20 (.iface 117 (.int .i64 n)) (.iface 117 (.int .i64 m))).run Tryd.prog w = .ok (.bool (decide (n = m))) w :=
  one_int _ Tryd.underlying117 (i := (Tryd.prog.info? 117).getD default) (by kernel_rfl) (by kernel_rfl) n m w
theorem eqNkind (n m : Int) (w : World) : (binOp .eql 20 (.iface 109 (.int .i64 n)) (.iface 109 (.int .i64 m))).run Tryd.prog w = .ok (.bool (decide (n = m))) w :=
  one_int _ Tryd.underlying109 (i := (Tryd.prog.info? 109).getD default) (by kernel_rfl) (by kernel_rfl) n m w

theorem ptr_nn (t : TypeId) {te : TypeId} (ht : Tryd.prog.underlying t = some (.pointer te)) (w : World) : (Op.equalIn 9999 t (.pointer none) (.pointer none)).run Tryd.prog w = .ok true w := by
  rw [show (9999 : Nat) = 9998 + 1 from rfl]
  unfold Op.equalIn
  simp [run_underlying ht]
theorem ptr_sn (t : TypeId) {te : TypeId} (ht : Tryd.prog.underlying t = some (.pointer te)) (a : Addr) (w : World) : (Op.equalIn 9999 t (.pointer (some a)) (.pointer none)).run Tryd.prog w = .ok false w := by
  rw [show (9999 : Nat) = 9998 + 1 from rfl]
  unfold Op.equalIn
  simp [run_underlying ht]
theorem ptr_ns (t : TypeId) {te : TypeId} (ht : Tryd.prog.underlying t = some (.pointer te)) (a : Addr) (w : World) : (Op.equalIn 9999 t (.pointer none) (.pointer (some a))).run Tryd.prog w = .ok false w := by
  rw [show (9999 : Nat) = 9998 + 1 from rfl]
  unfold Op.equalIn
  simp [run_underlying ht]

theorem eqPointer (w : World) : (binOp .eql 20 (.iface 122 (.pointer none)) (.iface 122 (.pointer none))).run Tryd.prog w = .ok (.bool true) w :=
  run_eql_same w _ _ Tryd.underlying20 (i := (Tryd.prog.info? 122).getD default) (by kernel_rfl) (by kernel_rfl) (ptr_nn _ Tryd.underlying122 w)
theorem eqSourceNN (w : World) : (binOp .eql 20 (.iface 123 (.pointer none)) (.iface 123 (.pointer none))).run Tryd.prog w = .ok (.bool true) w :=
  run_eql_same w _ _ Tryd.underlying20 (i := (Tryd.prog.info? 123).getD default) (by kernel_rfl) (by kernel_rfl) (ptr_nn _ Tryd.underlying123 w)
theorem eqSourceSN (a : Addr) (w : World) : (binOp .eql 20 (.iface 123 (.pointer (some a))) (.iface 123 (.pointer none))).run Tryd.prog w = .ok (.bool false) w :=
  run_eql_same w _ _ Tryd.underlying20 (i := (Tryd.prog.info? 123).getD default) (by kernel_rfl) (by kernel_rfl) (ptr_sn _ Tryd.underlying123 a w)
theorem eqSourceNS (a : Addr) (w : World) : (binOp .eql 20 (.iface 123 (.pointer none)) (.iface 123 (.pointer (some a)))).run Tryd.prog w = .ok (.bool false) w :=
  run_eql_same w _ _ Tryd.underlying20 (i := (Tryd.prog.info? 123).getD default) (by kernel_rfl) (by kernel_rfl) (ptr_ns _ Tryd.underlying123 a w)
theorem eqSource {a b : Nat} {ca cb : Array Value} {ta tb : TypeId} (w : World) (hne : a ≠ b) (ha : w.heap[a]? = some (.cells ca ta (0, 0))) (hb : w.heap[b]? = some (.cells cb tb (0, 0))) :
    (binOp .eql 20 (.iface 123 (.pointer (some ⟨a, 0, none⟩))) (.iface 123 (.pointer (some ⟨b, 0, none⟩)))).run Tryd.prog w = .ok (.bool false) w :=
  run_eql_iface_ptr_other w Tryd.underlying20 Tryd.underlying123 (i := (Tryd.prog.info? 123).getD default) (j := (Tryd.prog.info? 126).getD default) (by kernel_rfl) (by kernel_rfl) (by kernel_rfl) (of_decide_eq_true (by kernel_rfl)) (fun e => hne (congrArg Addr.block e)) ha hb
theorem eqBytes (v v' : Value) (w : World) : ∃ t x, (binOp .eql 20 (.iface 113 v) (.iface 113 v')).run Tryd.prog w = .halt (.panic (.iface t x)) w :=
  ⟨_, _, run_eql_panic (i := (Tryd.prog.info? 113).getD default) (s := "[]uint8") w v v' Tryd.underlying20 (by kernel_rfl) (by kernel_rfl) (by kernel_rfl) (by kernel_rfl)⟩
theorem eqValuer (v v' : Value) (w : World) : ∃ t x, (binOp .eql 20 (.iface 88 v) (.iface 88 v')).run Tryd.prog w = .halt (.panic (.iface t x)) w :=
  ⟨_, _, run_eql_panic (i := (Tryd.prog.info? 88).getD default) (s := "slog.ZzValuer") w v v' Tryd.underlying20 (by kernel_rfl) (by kernel_rfl) (by kernel_rfl) (by kernel_rfl)⟩
theorem partP (t : TypeId) {te : TypeId} (ht : Tryd.prog.underlying t = some (.pointer te)) (xs : Array Value) (o : Nat) (p : Option Addr) (w : World) (h : xs[o]? = some (.pointer p)) : (part t xs o).run Tryd.prog w = .ok (.pointer p) w := by
  have a9 : ∀ w, (isAgg t).run Tryd.prog w = .ok false w := Go.Proofs.run_isAgg_plain ht rfl
  unfold part
  simp [a9, h]
theorem str_ptr (t : TypeId) {i : TypeInfo} {f g : Field} {te : TypeId} (hS : Tryd.prog.underlying t = some (.struct #[f, g])) (hf0 : f.offset = 0) (hft : f.type = 9) (hfn : f.name ≠ "_") (hg0 : g.offset = 1) (hgt : Tryd.prog.underlying g.type = some (.pointer te)) (hgn : g.name ≠ "_") (hp : Tryd.prog.stoodInHeld t = false) (hn : Tryd.prog.info? t = some i) (hc : i.comparable = true) (s s' : ByteArray) (w : World) :
    (binOp .eql 20 (.iface t (.agg #[.string s, .pointer none])) (.iface t (.agg #[.string s', .pointer none]))).run Tryd.prog w = .ok (.bool (decide (s = s'))) w := by
  refine run_eql_same w _ _ Tryd.underlying20 hn hc ?_
  have hF : Tryd.prog.fieldsOf t = #[f, g] := by unfold Program.fieldsOf; rw [hS]
  rw [show (9999 : Nat) = 9998 + 1 from rfl, run_equalIn_struct w 9998 t _ _ (by rw [hF]; exact hS) hp, hF]
  have p1 := fun w => part9 #[.string s, .pointer none] 0 s w rfl
  have p2 := fun w => part9 #[.string s', .pointer none] 0 s' w rfl
  have p3 := fun w => partP g.type hgt #[.string s, .pointer none] 1 none w rfl
  have p4 := fun w => partP g.type hgt #[.string s', .pointer none] 1 none w rfl
  have pe : ∀ w, (Op.equalIn 9998 g.type (.pointer none) (.pointer none)).run Tryd.prog w = .ok true w := fun w => by
    rw [show (9998 : Nat) = 9997 + 1 from rfl]
    unfold Op.equalIn
    simp [run_underlying hgt]
  simp only [Op.eqFields, if_pos hfn, if_pos hgn, hf0, hft, hg0, Sem.run_bind, p1, p2, eq9, Result.andThen_ok]
  by_cases h : s = s'
  · subst h
    simp [p3, p4, pe]
  · simp [h]
theorem eqThrows (s s' : ByteArray) (w : World) : (binOp .eql 20 (.iface 86 (.agg #[.string s, .pointer none])) (.iface 86 (.agg #[.string s', .pointer none]))).run Tryd.prog w = .ok (.bool (decide (s = s'))) w :=
  str_ptr _ Tryd.underlying86 rfl rfl (by decide) rfl Tryd.underlying73 (by decide) (by kernel_rfl) (i := (Tryd.prog.info? 86).getD default) (by kernel_rfl) (by kernel_rfl) s s' w

end Go.Proofs.YtcgdnjigocknbaaDoor.Facts
