/- The reader of levels in JSON: impl.LevelParseJSON; letters in the other case; texts of letters, digits and signs. -/
import Derived.Test.YtconeignnananaaDoorLvN
namespace Go.Proofs.YtconeignnananaaDoor.Lv
set_option linter.unusedVariables false
set_option linter.unusedSimpArgs false
open Go Go.Lib Go.RowKit

set_option maxRecDepth 100000 in
set_option maxHeartbeats 1000000 in
/-- impl.LevelParseJSON of a text in quotation marks. -/
theorem parseJSON_any (B : ByteArray) (was : Int) (hs : B.size ≤ 1000000) (hcl : ∀ b ∈ B.data.toList, b.toNat < 128 ∧ b ≠ 34 ∧ b ≠ 92 ∧ b ≠ 10) (w : World) (hE : Env w) :
    Calls Tryd.prog 12 #[.string (inMarks B), .int .i64 was] w (ParsedPost B.data.toList was w) := by
  have hcv0 : ∀ (s : ByteArray) (w : World), (convert 9 41 (.string s)).run Tryd.prog w = .ok (.slice (some ⟨w.heap.size, 0, none⟩) s.size (grownCap w s.size 0 5)) (bytesWorld w 5 s) := fun s w =>
    Lib.run_convert_string_bytes w 9 41 5 s Tryd.underlying9 Tryd.underlying41 Tryd.underlying5
  obtain ⟨f1, f2, f3, f4⟩ := start_facts w was (inMarks B)
  have cR := fun c => json_any (.slice (some ⟨w.heap.size + 1, 0, none⟩) (inMarks B).size c) B w.heap.size was (bytesWorld (w.alloc (.cells #[.int .i64 was] 42 (0, 0))) 5 (inMarks B))
    (by have h := lies_conv (w.alloc (.cells #[.int .i64 was] 42 (0, 0))) 5 (inMarks B) c; simpa using h) hs hcl f1 f2 (hE.on f3)
  have F3 := Lib.hid f3
  obtain ⟨Q, hQ⟩ : ∃ Q, Q = ParsedPost B.data.toList was w := ⟨_, rfl⟩
  rw [← hQ]
  have HQ := Lib.hid hQ
  clear hQ hcl hE f3
  unfold ReadPost at cR
  obtain ⟨L, hL⟩ : ∃ L, L = levelOf B.data.toList := ⟨_, rfl⟩
  rw [← hL] at cR
  have HL := Lib.hid hL
  clear hL
  generalize inMarks B = Z at *
  cases L with
  | none =>
    simp only at cR
    have CR := Lib.hid cR
    clear cR
    go_enter Tryd.func12, Tryd.ntmps12
    go_wp2_with (first | (go_at_call 26; refine (CR.out _).mono ?_; rintro e w1 ⟨t, x, rfl, hb⟩; have k1 := ((bcell hb).1 _ 0 f4).trans f1; have HB := Lib.hid hb; clear hb))
    go_quiet (fail)
    go_wp2
    rw [HQ.out]
    unfold ParsedPost
    rw [← HL.out]
    exact ⟨rfl, below_drewN (F3.out.trans (HB.out.mono (Nat.le_of_lt f4))) _⟩
  | some n =>
    simp only at cR
    have CR := Lib.hid cR
    clear cR
    go_enter Tryd.func12, Tryd.ntmps12
    go_wp2_with (first | (go_at_call 26; refine (CR.out _).mono ?_; rintro e w1 ⟨rfl, k1, hb⟩; have HB := Lib.hid hb; clear hb))
    go_quiet (fail)
    go_wp2
    rw [HQ.out]
    unfold ParsedPost
    rw [← HL.out]
    exact ⟨rfl, below_drewN (below_but F3.out HB.out) _⟩

set_option maxRecDepth 100000 in
set_option maxHeartbeats 1000000 in
/-- impl.LevelParseJSON of a text without quotation marks. -/
theorem parseJSON_bare (Z : ByteArray) (was : Int) (hs : Z.size ≤ 1000000) (h0 : ∀ h : 0 < Z.size, (Z[0]'h) ≠ 34 ∧ (Z[0]'h) ≠ 39 ∧ (Z[0]'h) ≠ 96) (w : World) (hE : Env w) :
    Calls Tryd.prog 12 #[.string Z, .int .i64 was] w fun e w' => e = .returned (.tuple #[.int .i64 was, .bool false]) ∧ Below w.heap.size w w' := by
  have hcv0 : ∀ (s : ByteArray) (w : World), (convert 9 41 (.string s)).run Tryd.prog w = .ok (.slice (some ⟨w.heap.size, 0, none⟩) s.size (grownCap w s.size 0 5)) (bytesWorld w 5 s) := fun s w =>
    Lib.run_convert_string_bytes w 9 41 5 s Tryd.underlying9 Tryd.underlying41 Tryd.underlying5
  obtain ⟨f1, f2, f3, f4⟩ := start_facts w was Z
  have cR := fun c => json_bare (.slice (some ⟨w.heap.size + 1, 0, none⟩) Z.size c) Z w.heap.size (bytesWorld (w.alloc (.cells #[.int .i64 was] 42 (0, 0))) 5 Z)
    (by have h := lies_conv (w.alloc (.cells #[.int .i64 was] 42 (0, 0))) 5 Z c; simpa using h) hs h0 (hE.on f3)
  have F3 := Lib.hid f3
  obtain ⟨Q, hQ⟩ : ∃ Q : Ending → World → Prop, Q = fun e w' => e = .returned (.tuple #[.int .i64 was, .bool false]) ∧ Below w.heap.size w w' := ⟨_, rfl⟩
  rw [← hQ]
  have HQ := Lib.hid hQ
  have CR := Lib.hid cR
  clear hQ hE f3 h0 cR
  go_enter Tryd.func12, Tryd.ntmps12
  go_wp2_with (first | (go_at_call 26; refine (CR.out _).mono ?_; rintro e w1 ⟨⟨t, x, rfl⟩, hb⟩; have k1 := ((bcell hb).1 _ 0 f4).trans f1; have HB := Lib.hid hb; clear hb))
  go_quiet (fail)
  go_wp2
  rw [HQ.out]
  exact ⟨rfl, below_drewN (F3.out.trans (HB.out.mono (Nat.le_of_lt f4))) _⟩

/-! ### lvSimple -/
def isSimple (b : UInt8) : Bool := isLetter b || decide (48 ≤ b.toNat ∧ b.toNat ≤ 57) || isSign b

end Go.Proofs.YtconeignnananaaDoor.Lv
