/- The reader of levels in JSON: strconv.Unquote at texts without marks, UnmarshalJSON, impl.LevelParseJSON. -/
import Derived.Test.YtconeignnananaaDoorLvK
import Derived.Lib.Bytealg
namespace Go.Proofs.YtconeignnananaaDoor.Lv
set_option linter.unusedVariables false
set_option linter.unusedSimpArgs false
open Go Go.Lib Go.RowKit

set_option maxRecDepth 100000 in
set_option maxHeartbeats 1000000 in
theorem index_any (s : ByteArray) (c : Int) (w : World) : Calls Tryd.prog 75 #[.string s, .int .u8 c] w fun e w' => e = .returned (.int .i64 (indexByte s.data.toList c.toNat.toUInt8)) ∧ w = w' := by
  go_enter Tryd.func75, Tryd.ntmps75
  go_wp2
  rw [run_callFunc_extern Tryd.func95 (by kernel_rfl) (by kernel_rfl) (by kernel_rfl) (e := Extern.BytealgIndexByte.indexByte) (by kernel_rfl), Lib.run_indexByteString]
  simp only [Result.andThen]
  rw [Oper.upon_value]
  go_wp2
  go_ret
  exact ⟨rfl, rfl⟩

theorem contains_any (s : ByteArray) (c : Int) (w : World) : Calls Tryd.prog 76 #[.string s, .int .u8 c] w fun e w' => e = .returned (.bool (indexByte s.data.toList c.toNat.toUInt8 != -1)) ∧ w = w' := by
  have cI := fun wx => index_any s c wx
  generalize indexByte s.data.toList c.toNat.toUInt8 = i at cI
  have CI := Lib.hid cI
  clear cI
  go_enter Tryd.func76, Tryd.ntmps76
  go_wp2_with (go_at_call 75; refine (CI.out _).mono ?_; rintro e w1 ⟨rfl, rfl⟩)
  go_ret
  exact ⟨rfl, rfl⟩

theorem lt_ext {Z : ByteArray} (i j : Nat) (h : j ≤ Z.size) (hij : i ≤ j) : (Z.extract i j).size = j - i := by
  rw [ByteArray.size_extract]; omega

theorem ext_list (s : ByteArray) (i j : Nat) : (s.extract i j).data.toList = (s.data.toList.take j).drop i := by
  rw [extract_data, List.drop_take]
theorem ext2 (Z : ByteArray) (n : Nat) (hz : Z.size = n + 2) : (Z.extract 0 (n + 2)).extract 1 (n + 2 - 1) = Z.extract 1 (n + 1) := by
  apply ByteArray.ext
  apply Array.toList_inj.1
  rw [ext_list, ext_list, ext_list]
  rw [List.drop_zero, List.take_take]
  have : min (n + 2 - 1) (n + 2) = n + 1 := by omega
  rw [this]

set_option maxRecDepth 100000 in
set_option maxHeartbeats 400000 in
/-- strconv.unquote of a text in quotation marks, without others, backslashes and newlines, that is UTF-8. -/
theorem unquote_any (Z : ByteArray) (n : Nat) (hz : Z.size = n + 2) (hn : n ≤ 1000000) (h0 : (Z[0]'(by omega)) = 34) (w : World)
    (i1 : indexByte (Z.extract 1 (n + 2)).data.toList 34 = (n : Int)) (i2 : indexByte (Z.extract 0 (n + 2)).data.toList 92 = -1) (i3 : indexByte (Z.extract 0 (n + 2)).data.toList 10 = -1)
    (hv : Calls Tryd.prog 77 #[.string (Z.extract 1 (n + 1))] w fun e w' => e = .returned (.bool true) ∧ Below w.heap.size w w') :
    Calls Tryd.prog 58 #[.string Z, .bool true] w fun e w' => e = .returned (.tuple #[.string (Z.extract 1 (n + 1)), .string (Z.extract (n + 2) (n + 2)), .nilIface]) ∧ Below w.heap.size w w' := by
  obtain ⟨Q, hQ⟩ : ∃ Q : Ending → World → Prop, Q = fun e w' => e = .returned (.tuple #[.string (Z.extract 1 (n + 1)), .string (Z.extract (n + 2) (n + 2)), .nilIface]) ∧ Below w.heap.size w w' := ⟨_, rfl⟩
  rw [← hQ]
  have HQ := Lib.hid hQ
  have c1 := fun wx => index_any (Z.extract 1 (n + 2)) 34 wx
  have c2 := fun wx => contains_any (Z.extract 0 (n + 2)) 92 wx
  have c3 := fun wx => contains_any (Z.extract 0 (n + 2)) 10 wx
  rw [show ((34 : Int).toNat.toUInt8) = 34 from rfl, i1] at c1
  rw [show ((92 : Int).toNat.toUInt8) = 92 from rfl, i2] at c2
  rw [show ((10 : Int).toNat.toUInt8) = 10 from rfl, i3] at c3
  have C1 := Lib.hid c1
  have C2 := Lib.hid c2
  have C3 := Lib.hid c3
  have CV := Lib.hid hv
  clear hQ c1 c2 c3 i1 i2 i3 hv
  have hsz : (Z.size : Int) = (n : Int) + 2 := by omega
  have h0' : ((Z[0]'(by omega)).toNat : Int) = 34 := by rw [h0]; rfl
  have g1 : ¬ (Z.size : Int) < 2 := by omega
  have g2 : ¬ (n : Int) < 0 := by omega
  have g3 : (0 : Int) < (Z.size : Int) := by omega
  go_enter Tryd.func58, Tryd.ntmps58
  go_wp2_with (first
    | (go_at_call 75; refine (C1.out _).mono ?_; rintro e w1 ⟨rfl, rfl⟩)
    | (go_at_call 76; first | (refine (C2.out _).mono ?_; rintro e w1 ⟨rfl, rfl⟩) | (refine (C3.out _).mono ?_; rintro e w1 ⟨rfl, rfl⟩))
    | (go_at_call 77; refine CV.out.mono ?_; rintro e w1 ⟨rfl, hb1⟩))
  go_quiet (fail)
  go_wp2
  refine bodyPost_ret (v := .tuple #[.string ((Z.extract 0 (n + 2)).extract 1 (n + 2 - 1)), .string (Z.extract (n + 2) (n + 2)), .nilIface]) (by simp [results, Tryd.results58, go_sem]) rfl ?_
  rw [HQ.out]
  refine ⟨?_, below_drewN hb1 _⟩
  rw [show (Z.extract 0 (n + 2)).extract 1 (n + 2 - 1) = Z.extract 1 (n + 1) from ext2 Z n hz]

/-- A text in quotation marks. -/
def inMarks (B : ByteArray) : ByteArray := ⟨#[34]⟩ ++ B ++ ⟨#[34]⟩
theorem inMarks_list (B : ByteArray) : (inMarks B).data.toList = 34 :: (B.data.toList ++ [34]) := by
  unfold inMarks
  rw [ByteArray.toList_data_append, ByteArray.toList_data_append]
  rfl
theorem inMarks_size (B : ByteArray) : (inMarks B).size = B.size + 2 := by
  rw [size_eq, inMarks_list, size_eq]; simp

theorem indexByte_no : ∀ (l : List UInt8) (c : UInt8), c ∉ l → indexByte l c = -1
  | [], _, _ => rfl
  | b :: l, c, h => by
    have h1 : (b == c) = false := by rw [beq_eq_false_iff_ne]; exact fun e => h (by rw [e]; exact List.mem_cons_self ..)
    have h2 := indexByte_no l c (fun hm => h (List.mem_cons_of_mem _ hm))
    simp [indexByte, h1, h2]
theorem indexByte_last : ∀ (l : List UInt8) (c : UInt8), c ∉ l → indexByte (l ++ [c]) c = (l.length : Int)
  | [], c, _ => by simp [indexByte]
  | b :: l, c, h => by
    have h1 : (b == c) = false := by rw [beq_eq_false_iff_ne]; exact fun e => h (by rw [e]; exact List.mem_cons_self ..)
    have h2 := indexByte_last l c (fun hm => h (List.mem_cons_of_mem _ hm))
    simp only [List.cons_append, indexByte, h1, Bool.false_eq_true, if_false, h2, List.length_cons]
    rw [if_neg (by rw [beq_iff_eq]; omega)]
    push_cast
    rfl


theorem marks_ext (B : ByteArray) : (inMarks B).extract 1 (B.size + 1) = B := by
  apply ByteArray.ext
  apply Array.toList_inj.1
  rw [ext_list, inMarks_list, List.take_succ_cons, List.drop_succ_cons, List.drop_zero, size_eq, List.take_left]

set_option maxRecDepth 100000 in
set_option maxHeartbeats 1000000 in
/-- strconv.Unquote of a text in quotation marks. -/
theorem unquoted_any (B : ByteArray) (hs : B.size ≤ 1000000) (hc : ∀ b ∈ B.data.toList, b.toNat < 128 ∧ b ≠ 34 ∧ b ≠ 92 ∧ b ≠ 10) (w : World) (hU : Utf8Tabs 2 3 w) :
    Calls Tryd.prog 41 #[.string (inMarks B)] w fun e w' => e = .returned (.tuple #[.string B, .nilIface]) ∧ Below w.heap.size w w' := by
  have hz := inMarks_size B
  have l1 : ((inMarks B).extract 1 (B.size + 2)).data.toList = B.data.toList ++ [34] := by
    rw [ext_list, inMarks_list, List.take_succ_cons, List.drop_succ_cons, List.drop_zero, List.take_of_length_le (by rw [size_eq]; simp)]
  have l2 : ((inMarks B).extract 0 (B.size + 2)).data.toList = 34 :: (B.data.toList ++ [34]) := by
    rw [ext_list, inMarks_list, List.drop_zero, List.take_of_length_le (by rw [size_eq]; simp)]
  have no : ∀ c : UInt8, (∀ b ∈ B.data.toList, b ≠ c) → c ≠ 34 → c ∉ 34 :: (B.data.toList ++ [34]) := fun c h1 h2 hm => by
    rcases List.mem_cons.1 hm with e | hm
    · exact h2 e
    · rcases List.mem_append.1 hm with hm | hm
      · exact h1 c hm rfl
      · exact h2 (by simpa using hm)
  have hvd : validD B.data.toList = true := by
    rw [validD_ascii B.data.toList.length B.data.toList (fun b hb => (hc b (List.mem_of_mem_take hb)).1), List.drop_length]
    rfl
  have cV := Tryd.utf8_ValidString B w (by omega) hU
  rw [hvd] at cV
  have cU := unquote_any (inMarks B) B.size hz hs (by
      have : (inMarks B).data.toList[0]? = some 34 := by rw [inMarks_list]; rfl
      have h := at_list (inMarks B) 0 (by omega)
      rw [this] at h
      exact (Option.some.inj h).symm) w
    (by rw [l1, indexByte_last _ _ (fun hm => (hc 34 hm).2.1 rfl), ← size_eq]) (by rw [l2]; exact indexByte_no _ _ (no 92 (fun b hb => (hc b hb).2.2.1) (by decide)))
    (by rw [l2]; exact indexByte_no _ _ (no 10 (fun b hb => (hc b hb).2.2.2) (by decide)))
    (by rw [marks_ext]; exact cV)
  rw [marks_ext] at cU
  have hsz : ((inMarks B).extract (B.size + 2) (B.size + 2)).size = 0 := by rw [ByteArray.size_extract]; omega
  generalize (inMarks B).extract (B.size + 2) (B.size + 2) = R at cU hsz
  have g1 : ¬ (0 : Int) < (R.size : Int) := by omega
  have CU := Lib.hid cU
  obtain ⟨Q, hQ⟩ : ∃ Q : Ending → World → Prop, Q = fun e w' => e = .returned (.tuple #[.string B, .nilIface]) ∧ Below w.heap.size w w' := ⟨_, rfl⟩
  rw [← hQ]
  have HQ := Lib.hid hQ
  clear cU l1 l2 no hQ cV hvd hc hz
  generalize inMarks B = Z at CU
  go_enter Tryd.func41, Tryd.ntmps41
  go_wp2_with (go_at_call 58; refine CU.out.mono ?_; rintro e w1 ⟨rfl, hb1⟩)
  rw [HQ.out]
  exact ⟨rfl, hb1⟩

set_option maxRecDepth 100000 in
set_option maxHeartbeats 1000000 in
/-- strconv.unquote of a text that does not begin with a mark. -/
theorem unquote_bare (Z : ByteArray) (hs : Z.size ≤ 1000000) (h0 : ∀ h : 0 < Z.size, (Z[0]'h) ≠ 34 ∧ (Z[0]'h) ≠ 39 ∧ (Z[0]'h) ≠ 96) (w : World) (a : Addr) (hv : w.cell? ⟨0, 0, none⟩ = some (.iface 90 (.pointer (some a)))) :
    Calls Tryd.prog 58 #[.string Z, .bool true] w fun e w' => (∃ o, e = .returned (.tuple #[o, .string Z, .iface 90 (.pointer (some a))])) ∧ Below w.heap.size w w' := by
  obtain ⟨Q, hQ⟩ : ∃ Q : Ending → World → Prop, Q = fun e w' => (∃ o, e = .returned (.tuple #[o, .string Z, .iface 90 (.pointer (some a))])) ∧ Below w.heap.size w w' := ⟨_, rfl⟩
  rw [← hQ]
  have HQ := Lib.hid hQ
  clear hQ
  by_cases h2 : Z.size < 2
  · have g1 : (Z.size : Int) < 2 := by omega
    clear h0
    go_enter Tryd.func58, Tryd.ntmps58
    go_wp2
    go_quiet (fail)
    go_wp2
    refine bodyPost_ret (v := .tuple #[.string ⟨#[]⟩, .string Z, .iface 90 (.pointer (some a))]) (by simp [results, Tryd.results58, go_sem]) rfl ?_
    rw [HQ.out]
    exact ⟨⟨_, rfl⟩, below_drewN (Below.refl _ _) _⟩
  · have hz : 0 < Z.size := by omega
    obtain ⟨n1, n2, n3⟩ := h0 hz
    have g1 : ¬ (Z.size : Int) < 2 := by omega
    have g3 : (0 : Int) < (Z.size : Int) := by omega
    have c1 := fun wx => index_any (Z.extract 1 Z.size) ((Z[0]'hz).toNat : Int) wx
    have hge := indexByte_ge (Z.extract 1 Z.size).data.toList (((Z[0]'hz).toNat : Int).toNat.toUInt8)
    have q1 : (((Z[0]'hz).toNat : Int) == 96) = false := by
      rw [beq_eq_false_iff_ne]; intro e; exact n3 (UInt8.toNat_inj.1 (by simpa using (by exact_mod_cast e : (Z[0]'hz).toNat = 96)))
    have q2 : (((Z[0]'hz).toNat : Int) == 34) = false := by
      rw [beq_eq_false_iff_ne]; intro e; exact n1 (UInt8.toNat_inj.1 (by simpa using (by exact_mod_cast e : (Z[0]'hz).toNat = 34)))
    have q3 : (((Z[0]'hz).toNat : Int) == 39) = false := by
      rw [beq_eq_false_iff_ne]; intro e; exact n2 (UInt8.toNat_inj.1 (by simpa using (by exact_mod_cast e : (Z[0]'hz).toNat = 39)))
    generalize indexByte (Z.extract 1 Z.size).data.toList (((Z[0]'hz).toNat : Int).toNat.toUInt8) = i at c1 hge
    have C1 := Lib.hid c1
    clear c1 n1 n2 n3 h0
    by_cases hi : i < 0
    · go_enter Tryd.func58, Tryd.ntmps58
      go_wp2_with (go_at_call 75; refine (C1.out _).mono ?_; rintro e w1 ⟨rfl, rfl⟩)
      go_quiet (fail)
      go_wp2
      refine bodyPost_ret (v := .tuple #[.string ⟨#[]⟩, .string Z, .iface 90 (.pointer (some a))]) (by simp [results, Tryd.results58, go_sem]) rfl ?_
      rw [HQ.out]
      exact ⟨⟨_, rfl⟩, below_drewN (Below.refl _ _) _⟩
    · go_enter Tryd.func58, Tryd.ntmps58
      go_wp2_with (go_at_call 75; refine (C1.out _).mono ?_; rintro e w1 ⟨rfl, rfl⟩)
      go_quiet (fail)
      go_wp2
      refine bodyPost_ret (v := .tuple #[.string ⟨#[]⟩, .string Z, .iface 90 (.pointer (some a))]) (by simp [results, Tryd.results58, go_sem]) rfl ?_
      rw [HQ.out]
      exact ⟨⟨_, rfl⟩, below_drewN (Below.refl _ _) _⟩

set_option maxRecDepth 100000 in
set_option maxHeartbeats 1000000 in
theorem unquoted_bare (Z : ByteArray) (hs : Z.size ≤ 1000000) (h0 : ∀ h : 0 < Z.size, (Z[0]'h) ≠ 34 ∧ (Z[0]'h) ≠ 39 ∧ (Z[0]'h) ≠ 96) (w : World) (a : Addr) (hv : w.cell? ⟨0, 0, none⟩ = some (.iface 90 (.pointer (some a)))) :
    Calls Tryd.prog 41 #[.string Z] w fun e w' => (∃ o, e = .returned (.tuple #[o, .iface 90 (.pointer (some a))])) ∧ Below w.heap.size w w' := by
  obtain ⟨Q, hQ⟩ : ∃ Q : Ending → World → Prop, Q = fun e w' => (∃ o, e = .returned (.tuple #[o, .iface 90 (.pointer (some a))])) ∧ Below w.heap.size w w' := ⟨_, rfl⟩
  rw [← hQ]
  have HQ := Lib.hid hQ
  have CU := Lib.hid (unquote_bare Z hs h0 w a hv)
  have h00 : 0 < w.heap.size := World.block_lt_of_cell? w ⟨0, 0, none⟩ hv
  clear hQ h0
  by_cases hz : Z.size = 0
  · have g1 : ¬ (0 : Int) < (Z.size : Int) := by omega
    go_enter Tryd.func41, Tryd.ntmps41
    go_wp2_with (go_at_call 58; refine CU.out.mono ?_; rintro e w1 ⟨⟨o, rfl⟩, hb1⟩; have HB := Lib.hid hb1; clear hb1)
    rw [HQ.out]
    exact ⟨⟨_, rfl⟩, HB.out⟩
  · have g1 : (0 : Int) < (Z.size : Int) := by omega
    go_enter Tryd.func41, Tryd.ntmps41
    go_wp2_with (go_at_call 58; refine CU.out.mono ?_; rintro e w1 ⟨⟨o, rfl⟩, hb1⟩; have k0 := ((bcell hb1).1 0 0 h00).trans hv; have HB := Lib.hid hb1; clear hb1)
    go_quiet (fail)
    go_wp2
    rw [HQ.out]
    exact ⟨⟨_, rfl⟩, below_drewN HB.out _⟩

set_option maxRecDepth 100000 in
set_option maxHeartbeats 1000000 in
/-- (*Level).UnmarshalJSON of a text in quotation marks. -/
theorem json_any (v : Value) (B : ByteArray) (b : Nat) (old : Int) (w : World) (hv : Lies w v (inMarks B).data.toList) (hs : B.size ≤ 1000000) (hcl : ∀ b ∈ B.data.toList, b.toNat < 128 ∧ b ≠ 34 ∧ b ≠ 92 ∧ b ≠ 10) (hc : w.cell? ⟨b, 0, none⟩ = some (.int .i64 old)) (hf : w.frozen? ⟨b, 0, none⟩ = false) (hE : Env w) :
    Calls Tryd.prog 26 #[.pointer (some ⟨b, 0, none⟩), v] w (ReadPost B.data.toList b w) := by
  have hbw : b < w.heap.size := World.block_lt_of_cell? _ _ hc
  have cR : ∀ w1, Below w.heap.size w w1 → Calls Tryd.prog 40 #[.pointer (some ⟨b, 0, none⟩), .string B] w1 (ReadPost B.data.toList b w1) := fun w1 hb => read_any B b old hs (fun b hb => (hcl b hb).1) w1 (((bcell hb).1 _ 0 hbw).trans hc) (((bcell hb).2 _ 0 hbw).trans hf) (hE.on hb)
  have hcv := hv.convert (P := Tryd.prog) 41 9 5 Tryd.underlying41 Tryd.underlying5 Tryd.underlying9
  rw [show (⟨(inMarks B).data.toList.toArray⟩ : ByteArray) = inMarks B from rfl] at hcv
  have CU := Lib.hid (unquoted_any B hs hcl w hE.utf8)
  have CR := Lib.hid cR
  obtain ⟨Q, hQ⟩ : ∃ Q, Q = ReadPost B.data.toList b w := ⟨_, rfl⟩
  rw [← hQ]
  have HQ := Lib.hid hQ
  clear cR hv hE hcl hQ hc hf
  generalize inMarks B = Z at CU hcv
  unfold ReadPost at CR
  obtain ⟨L, hL⟩ : ∃ L, L = levelOf B.data.toList := ⟨_, rfl⟩
  rw [← hL] at CR
  have HL := Lib.hid hL
  clear hL
  cases L with
  | none =>
    go_enter Tryd.func26, Tryd.ntmps26
    go_wp2_with (first
      | (go_at_call 41; refine CU.out.mono ?_; rintro e w1 ⟨rfl, hb⟩; have HB := Lib.hid hb; clear hb)
      | (go_at_call 40; refine (CR.out _ HB.out).mono ?_; rintro e w2 ⟨t, x, rfl, hb⟩; have HB2 := Lib.hid (below_then HB.out hb); clear hb))
    rw [HQ.out]
    unfold ReadPost
    rw [← HL.out]
    exact ⟨t, x, rfl, HB2.out⟩
  | some n =>
    go_enter Tryd.func26, Tryd.ntmps26
    go_wp2_with (first
      | (go_at_call 41; refine CU.out.mono ?_; rintro e w1 ⟨rfl, hb⟩; have HB := Lib.hid hb; clear hb)
      | (go_at_call 40; refine (CR.out _ HB.out).mono ?_; rintro e w2 ⟨rfl, hb⟩; have HB2 := Lib.hid hb; clear hb))
    rw [HQ.out]
    unfold ReadPost
    rw [← HL.out]
    exact ⟨rfl, HB2.out.1, (But.of_below HB.out).trans HB2.out.2⟩

set_option maxRecDepth 100000 in
set_option maxHeartbeats 1000000 in
/-- .. and of one without. -/
theorem json_bare (v : Value) (s : ByteArray) (b : Nat) (w : World) (hv : Lies w v s.data.toList) (hs : s.size ≤ 1000000) (h0 : ∀ h : 0 < s.size, (s[0]'h) ≠ 34 ∧ (s[0]'h) ≠ 39 ∧ (s[0]'h) ≠ 96) (hE : Env w) :
    Calls Tryd.prog 26 #[.pointer (some ⟨b, 0, none⟩), v] w fun e w' => (∃ t x, e = .returned (.iface t x)) ∧ Below w.heap.size w w' := by
  obtain ⟨a, t, ha, _⟩ := hE.bad
  have hcv := hv.convert (P := Tryd.prog) 41 9 5 Tryd.underlying41 Tryd.underlying5 Tryd.underlying9
  rw [show (⟨s.data.toList.toArray⟩ : ByteArray) = s from rfl] at hcv
  have c0 : w.cell? ⟨0, 0, none⟩ = some (.iface 90 (.pointer (some a))) := by
    have hg : Tryd.prog.globalNamed "strconv.ErrSyntax" = some 0 := by kernel_rfl
    have h0 := World.var?_cell hg ha 0
    simpa using h0
  have CU := Lib.hid (unquoted_bare s hs h0 w a c0)
  obtain ⟨Q, hQ⟩ : ∃ Q : Ending → World → Prop, Q = fun e w' => (∃ t x, e = .returned (.iface t x)) ∧ Below w.heap.size w w' := ⟨_, rfl⟩
  rw [← hQ]
  have HQ := Lib.hid hQ
  clear hv hE h0 hQ ha
  go_enter Tryd.func26, Tryd.ntmps26
  go_wp2_with (first
      | (go_at_call 41; refine CU.out.mono ?_; rintro e w1 ⟨⟨o, rfl⟩, hb⟩; have HB := Lib.hid hb; clear hb))
  rw [HQ.out]
  exact ⟨⟨_, _, rfl⟩, HB.out⟩

end Go.Proofs.YtconeignnananaaDoor.Lv
