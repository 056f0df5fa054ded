/- A level as text and as JSON, through the thin package; the law FnLvName: the walks. -/
import Derived.Test.YtconeignnananaaDoorLvB
namespace Go.Proofs.YtconeignnananaaDoor.Lv
set_option linter.unusedVariables false
set_option linter.unusedSimpArgs false
open Go Go.Lib Go.RowKit

theorem decDigits_mem (u : Nat) : ∀ b ∈ decDigits u, 48 ≤ b.toNat ∧ b.toNat ≤ 57 := by
  induction u using Nat.strongRecOn with
  | _ u ih =>
    rw [decDigits]
    split
    · intro b hb
      simp only [List.mem_cons, List.not_mem_nil, or_false] at hb
      subst hb
      simp
      omega
    · intro b hb
      rw [List.mem_append] at hb
      rcases hb with hb | hb
      · exact ih (u / 10) (by omega) b hb
      · simp only [List.mem_cons, List.not_mem_nil, or_false] at hb
        subst hb
        simp
        omega

theorem itoa_mem (n : Int) : ∀ b ∈ itoa n, b.toNat = 45 ∨ 48 ≤ b.toNat ∧ b.toNat ≤ 57 := by
  intro b hb
  unfold itoa at hb
  split at hb
  · rcases List.mem_cons.1 hb with rfl | hb
    · exact .inl rfl
    · exact .inr (decDigits_mem _ b hb)
  · exact .inr (decDigits_mem _ b hb)

theorem toList_itoaB (n : Int) : (itoaB n).data.toList = itoa n := rfl

theorem strB_clear (base : ByteArray) (v : Int) (h : Clear base.data.toList) : Clear (strB base v).data.toList := by
  have hi : Clear (itoaB v).data.toList := fun b hb => by
    rw [toList_itoaB] at hb
    have := itoa_mem v b hb
    omega
  unfold strB
  split
  · exact h
  · split
    · intro b hb
      rw [ByteArray.toList_data_append, ByteArray.toList_data_append] at hb
      rcases List.mem_append.1 hb with hb | hb
      · exact h b hb
      · rcases List.mem_append.1 hb with hb | hb
        · have : b = 43 := by simpa using hb
          subst this
          decide
        · exact hi b hb
    · intro b hb
      rw [ByteArray.toList_data_append] at hb
      rcases List.mem_append.1 hb with hb | hb
      · exact h b hb
      · exact hi b hb

theorem strB_size (base : ByteArray) (v : Int) (h0 : -9223372036854775808 ≤ v) (h1 : v ≤ 9223372036854775807) : base.size ≤ (strB base v).size ∧ (strB base v).size ≤ base.size + 22 := by
  have hs := itoaB_size v h0 h1
  unfold strB
  split
  · omega
  · split
    · rw [ByteArray.size_append, ByteArray.size_append, show (⟨#[43]⟩ : ByteArray).size = 1 from rfl]; omega
    · rw [ByteArray.size_append]; omega

theorem lvName_clear (n : Int) : Clear (lvName n).data.toList := by
  unfold lvName
  repeat' split
  all_goals exact strB_clear _ _ (by unfold Clear; decide)

theorem lvName_size (n : Int) (h0 : -9223372036854775808 ≤ n) (h1 : n ≤ 9223372036854775807) : 1 ≤ (lvName n).size ∧ (lvName n).size ≤ 40 := by
  unfold lvName
  split
  · have := strB_size ⟨#[68, 69, 66, 85, 71]⟩ (n + 4) (by omega) (by omega)
    rw [show (⟨#[68, 69, 66, 85, 71]⟩ : ByteArray).size = 5 from rfl] at this
    omega
  · split
    · have := strB_size ⟨#[73, 78, 70, 79]⟩ n (by omega) (by omega)
      rw [show (⟨#[73, 78, 70, 79]⟩ : ByteArray).size = 4 from rfl] at this
      omega
    · split
      · have := strB_size ⟨#[87, 65, 82, 78]⟩ (n - 4) (by omega) (by omega)
        rw [show (⟨#[87, 65, 82, 78]⟩ : ByteArray).size = 4 from rfl] at this
        omega
      · have := strB_size ⟨#[69, 82, 82, 79, 82]⟩ (n - 8) (by omega) (by omega)
        rw [show (⟨#[69, 82, 82, 79, 82]⟩ : ByteArray).size = 5 from rfl] at this
        omega

/-- What a method hands back that makes bytes. -/
def BytesPost (w : World) (l : List UInt8) (e : Ending) (w' : World) : Prop := ∃ v', e = .returned (.tuple #[v', .nilIface]) ∧ Lies w' v' l ∧ Below w.heap.size w w'

theorem lvl (n : Int) : (lvName n).data.toList.length = (lvName n).size := (size_eq _).symm

set_option maxRecDepth 100000 in
set_option maxHeartbeats 1000000 in
/-- Level.AppendText onto nothing. -/
theorem appendText_nil (n : Int) (h0 : -9223372036854775808 ≤ n) (h1 : n ≤ 9223372036854775807) (w : World) (hp : Pow w) :
    Calls Tryd.prog 29 #[.int .i64 n, .slice none 0 0] w (BytesPost w (lvName n).data.toList) := by
  obtain ⟨i0, hi, hz0, hz1, hz2⟩ := info_parts info5
  have HP := Lib.hid hp
  have hsz := lvName_size n h0 h1
  obtain ⟨N, hN⟩ : ∃ N, N = lvName n := ⟨_, rfl⟩
  rw [← hN] at hsz ⊢
  have HN := Lib.hid hN
  clear hp hN
  unfold BytesPost
  go_enter Tryd.func29, Tryd.ntmps29
  go_wp2_with (first
    | (go_at_call 27; refine (string_any n h0 h1 _ HP.out).mono ?_; rintro e w1 ⟨rfl, hb1⟩; rw [← HN.out]; have hB0 : OwnBuf w.heap.size 5 (.slice none 0 0) 0 [] w w1 := ⟨World.ownsRowF_nil _ _ _ _, hb1, hb1.size⟩; clear hb1)
    | (at_builtin; refine wpList_append_text rfl _ _ 41 9 rfl w.heap.size 5 i0 Tryd.underlying41 Tryd.underlying9 hi hz0 hz1 hz2 _ _ _ rfl w (by assumption) _ rfl (by omega) ?_; intro v2 w2 hb2; have Hb2 := Lib.hid hb2; clear hb2 hB0))
  go_ret2
  refine ⟨v2, rfl, lies_of_buf (n := N.size) (e := 5) (B := w.heap.size) (W0 := w) ?_, Hb2.out.2.1⟩
  have h := Hb2.out
  simpa [strCells_eq] using h

set_option maxRecDepth 100000 in
set_option maxHeartbeats 1000000 in
/-- Level.MarshalText. -/
theorem marshalText_any (n : Int) (h0 : -9223372036854775808 ≤ n) (h1 : n ≤ 9223372036854775807) (w : World) (hp : Pow w) :
    Calls Tryd.prog 28 #[.int .i64 n] w (BytesPost w (lvName n).data.toList) := by
  have HP := Lib.hid hp
  clear hp
  unfold BytesPost
  go_enter Tryd.func28, Tryd.ntmps28
  go_wp2_with (first
    | (go_at_call 29; refine (appendText_nil n h0 h1 _ HP.out).mono ?_; rintro e w1 ⟨v1, rfl, hl1, hb1⟩; have HL1 := Lib.hid hl1; clear hl1))
  go_ret2
  exact ⟨v1, rfl, HL1.out, hb1⟩

set_option maxRecDepth 100000 in
set_option maxHeartbeats 1000000 in
/-- impl.LevelText. -/
theorem levelText_any (n : Int) (h0 : -9223372036854775808 ≤ n) (h1 : n ≤ 9223372036854775807) (w : World) (hp : Pow w) :
    Calls Tryd.prog 15 #[.int .i64 n] w fun e w' => e = .returned (.string (lvName n)) ∧ Below w.heap.size w w' := by
  have HP := Lib.hid hp
  clear hp
  go_enter Tryd.func15, Tryd.ntmps15
  go_wp2_with (first
    | (go_at_call 28; refine (marshalText_any n h0 h1 _ HP.out).mono ?_; rintro e w1 ⟨v1, rfl, hl1, hb1⟩; have hcv := hl1.convert (P := Tryd.prog) 41 9 5 Tryd.underlying41 Tryd.underlying5 Tryd.underlying9; clear hl1))
  go_ret
  exact ⟨rfl, hb1⟩

set_option maxRecDepth 100000 in
set_option maxHeartbeats 1000000 in
/-- impl.LevelString. -/
theorem levelString_any (n : Int) (h0 : -9223372036854775808 ≤ n) (h1 : n ≤ 9223372036854775807) (w : World) (hp : Pow w) :
    Calls Tryd.prog 14 #[.int .i64 n] w fun e w' => e = .returned (.string (lvName n)) ∧ Below w.heap.size w w' := by
  have HP := Lib.hid hp
  clear hp
  go_enter Tryd.func14, Tryd.ntmps14
  go_wp2_with (first
    | (go_at_call 27; refine (string_any n h0 h1 _ HP.out).mono ?_; rintro e w1 ⟨rfl, hb1⟩))
  go_ret
  exact ⟨rfl, hb1⟩

/-- A text in quotation marks. -/
def quoB (s : ByteArray) : ByteArray := ⟨#[34]⟩ ++ s ++ ⟨#[34]⟩
theorem quoB_list (s : ByteArray) : (quoB s).data.toList = 34 :: (s.data.toList ++ [34]) := by
  unfold quoB
  rw [ByteArray.toList_data_append, ByteArray.toList_data_append]
  simp

set_option maxRecDepth 100000 in
set_option maxHeartbeats 1000000 in
/-- Level.MarshalJSON. -/
theorem marshalJSON_any (n : Int) (h0 : -9223372036854775808 ≤ n) (h1 : n ≤ 9223372036854775807) (T : PrintTabs) (w : World) (hp : Pow w) (hT : PrintTabsAt 9 10 11 12 T w) :
    Calls Tryd.prog 30 #[.int .i64 n] w (BytesPost w (quoB (lvName n)).data.toList) := by
  have HP := Lib.hid hp
  have HT := Lib.hid hT
  have hsz := lvName_size n h0 h1
  have HC := Lib.hid (lvName_clear n)
  clear hp hT
  have cq : ∀ wx : World, Below w.heap.size w wx → Calls Tryd.prog 43 #[.slice none 0 0, .string (lvName n)] wx (QuotePost wx (lvName n).data.toList) := by
    intro wx hb
    have hT' := Go.Proofs.printTabs_below HT.out hb
    obtain ⟨N, hN⟩ : ∃ N, N = lvName n := ⟨_, rfl⟩
    rw [← hN] at hsz HC ⊢
    have HQ := Lib.hid (quoted_clear T N wx hsz.1 (by omega) HC.out hT')
    unfold QuotePost
    clear hT' hb HT HP hN
    go_enter Tryd.func43, Tryd.ntmps43
    go_wp2_with (first
      | (go_at_call 59; refine HQ.out.mono ?_; rintro e w1 ⟨v1, rfl, hb1⟩; have HB1 := Lib.hid hb1; clear hb1))
    go_ret
    exact ⟨v1, rfl, HB1.out⟩
  have Cq := Lib.hid cq
  obtain ⟨N, hN⟩ : ∃ N, N = lvName n := ⟨_, rfl⟩
  rw [← hN] at hsz Cq ⊢
  have HN := Lib.hid hN
  clear cq hN
  unfold BytesPost
  go_enter Tryd.func30, Tryd.ntmps30
  go_wp2_with (first
    | (go_at_call 27; refine (string_any n h0 h1 _ HP.out).mono ?_; rintro e w1 ⟨rfl, hb1⟩; rw [← HN.out]; have HB1 := Lib.hid hb1; clear hb1)
    | (go_at_call 43; refine (Cq.out _ HB1.out).mono ?_; rintro e w2 ⟨v2, rfl, hb2⟩; have HB2 := Lib.hid hb2; clear hb2))
  go_ret2
  refine ⟨v2, rfl, ?_, below_then HB1.out HB2.out.2.1⟩
  rw [quoB_list]
  exact lies_of_buf HB2.out

set_option maxRecDepth 100000 in
set_option maxHeartbeats 1000000 in
/-- impl.LevelJSON. -/
theorem levelJSON_any (n : Int) (h0 : -9223372036854775808 ≤ n) (h1 : n ≤ 9223372036854775807) (T : PrintTabs) (w : World) (hp : Pow w) (hT : PrintTabsAt 9 10 11 12 T w) :
    Calls Tryd.prog 17 #[.int .i64 n] w fun e w' => e = .returned (.string (quoB (lvName n))) ∧ Below w.heap.size w w' := by
  have HP := Lib.hid hp
  have HT := Lib.hid hT
  clear hp hT
  go_enter Tryd.func17, Tryd.ntmps17
  go_wp2_with (first
    | (go_at_call 30; refine (marshalJSON_any n h0 h1 T _ HP.out HT.out).mono ?_; rintro e w1 ⟨v1, rfl, hl1, hb1⟩; have hcv := hl1.convert (P := Tryd.prog) 41 9 5 Tryd.underlying41 Tryd.underlying5 Tryd.underlying9; clear hl1))
  go_ret
  exact ⟨rfl, hb1⟩

set_option maxRecDepth 100000 in
set_option maxHeartbeats 1000000 in
/-- Level.AppendText onto what a string was converted to. -/
theorem appendText_conv (n : Int) (h0 : -9223372036854775808 ≤ n) (h1 : n ≤ 9223372036854775807) (s : ByteArray) (hs : s.size ≤ 1000000000) (w0 : World) (hp : Pow w0) :
    Calls Tryd.prog 29 #[.int .i64 n, .slice (some ⟨w0.heap.size, 0, none⟩) s.size (grownCap w0 s.size 0 5)] (bytesWorld w0 5 s) (BytesPost w0 (s ++ lvName n).data.toList) := by
  obtain ⟨i0, hi, hz0, hz1, hz2⟩ := info_parts info5
  have hbW : Below w0.heap.size w0 (bytesWorld w0 5 s) := bytesWorld_below _ _ _
  have HP := Lib.hid (hp.on hbW)
  have HW := Lib.hid hbW
  have hsz := lvName_size n h0 h1
  have hge := grownCap_ge w0 s.size 0 5
  have hle := grownCap_le_maxLen w0 s.size 0 5 (by unfold maxLen; omega)
  have hcs : (bytesCells w0 5 s).size = grownCap w0 s.size 0 5 := by
    unfold bytesCells
    rw [Array.size_append, Array.size_map, Array.size_replicate]
    have : s.data.size = s.size := rfl
    omega
  have htake : (bytesCells w0 5 s).toList.take s.size = strCells s := by
    unfold bytesCells strCells
    have e : (Array.map (fun (b : UInt8) => Value.int .u8 (b.toNat : Int)) s.data).toList.length = s.size := by rw [Array.length_toList, Array.size_map]; rfl
    rw [Array.toList_append, List.take_append_of_le_length (Nat.le_of_eq e.symm), List.take_of_length_le (Nat.le_of_eq e)]
    simp
  have hnew := bytesWorld_at_new w0 5 s
  have hbs : w0.heap.size < (bytesWorld w0 5 s).heap.size := by rw [bytesWorld_size]; omega
  obtain ⟨N, hN⟩ : ∃ N, N = lvName n := ⟨_, rfl⟩
  rw [← hN] at hsz ⊢
  have HN := Lib.hid hN
  obtain ⟨C, hC⟩ : ∃ C, C = grownCap w0 s.size 0 5 := ⟨_, rfl⟩
  rw [← hC] at hge hle hcs ⊢
  obtain ⟨g, hg⟩ : ∃ g, g = w0.heap.size := ⟨_, rfl⟩
  rw [← hg] at hnew hbs ⊢
  obtain ⟨w, hw⟩ : ∃ w, w = bytesWorld w0 5 s := ⟨_, rfl⟩
  rw [← hw] at hnew hbs HP HW ⊢
  have Hw := Lib.hid (And.intro hw hg)
  have HA := Lib.hid (And.intro hcs htake)
  have HK := Lib.hid (fun (w1 : World) (hb : Below w.heap.size w w1) => (hb.block g hbs).trans hnew)
  have hm2 : s.size + N.size ≤ maxLen := by unfold maxLen; omega
  have hm3 : s.size + N.size ≤ 140737488355328 := by omega
  clear hp hbW hN hC hw hg hcs htake hnew
  unfold BytesPost
  go_enter Tryd.func29, Tryd.ntmps29
  go_wp2_with (first
    | (go_at_call 27; refine (string_any n h0 h1 _ HP.out).mono ?_; rintro e w1 ⟨rfl, hb1⟩; rw [← HN.out]; have HB1 := Lib.hid hb1; clear hb1)
    | (at_builtin; refine wpList_append_tail _ rfl _ _ 41 9 rfl 5 i0 Tryd.underlying41 Tryd.underlying9 hi hz0 hz1 hz2 g s.size C (bytesCells w0 5 s) ((bytesCells w0 5 s).size, (bytesCells w0 5 s).size + 1) (HK.out _ HB1.out) (Nat.le_refl _) HA.out.1 hge hle (strCells s) HA.out.2 rfl _ rfl hm2 hm3 ?_; intro g2 c2 w2 hg2 hc2 hgr2; have HG2 := Lib.hid (And.intro hg2 (And.intro hc2 hgr2)); clear hg2 hc2 hgr2))
  go_ret2
  have hbw1 : Below w0.heap.size w0 w1 := HW.out.trans (HB1.out.mono HW.out.size)
  refine ⟨_, rfl, ?_, hbw1.grown HG2.out.2.2 hbw1.size (by intro k hk; injection hk with hk; have := Hw.out.2; omega)⟩
  refine lies_of_cells ?_ HG2.out.1 ?_
  · rw [← size_eq, ByteArray.size_append]
  · rw [ByteArray.toList_data_append, byteCells_append]
    exact HG2.out.2.1

set_option maxRecDepth 100000 in
set_option maxHeartbeats 1000000 in
/-- impl.LevelAppend. -/
theorem levelAppend_any (n : Int) (h0 : -9223372036854775808 ≤ n) (h1 : n ≤ 9223372036854775807) (s : ByteArray) (hs : s.size ≤ 1000000000) (w : World) (hp : Pow w) :
    Calls Tryd.prog 16 #[.string s, .int .i64 n] w fun e w' => e = .returned (.string (s ++ lvName n)) ∧ Below w.heap.size w w' := by
  have HP := Lib.hid hp
  clear hp
  have hcv0 : ∀ (s : ByteArray) (w : World), (convert 9 41 (.string s)).run Tryd.prog w = .ok (.slice (some ⟨w.heap.size, 0, none⟩) s.size (grownCap w s.size 0 5)) (bytesWorld w 5 s) := fun s w =>
    Lib.run_convert_string_bytes w 9 41 5 s Tryd.underlying9 Tryd.underlying41 Tryd.underlying5
  go_enter Tryd.func16, Tryd.ntmps16
  go_wp2_with (first
    | (go_at_call 29; refine (appendText_conv n h0 h1 s hs w HP.out).mono ?_; rintro e w1 ⟨v1, rfl, hl1, hb1⟩; have hcv := hl1.convert (P := Tryd.prog) 41 9 5 Tryd.underlying41 Tryd.underlying5 Tryd.underlying9; clear hl1))
  go_ret
  exact ⟨rfl, hb1⟩

end Go.Proofs.YtconeignnananaaDoor.Lv
