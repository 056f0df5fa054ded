/- The reader of levels: UnmarshalText, and impl.LevelParse. -/
import Derived.Test.YtconeignnananaaDoorLvJ
import Derived.BigQuiet
namespace Go.Proofs.YtconeignnananaaDoor.Lv
set_option linter.unusedVariables false
set_option linter.unusedSimpArgs false
open Go Go.Lib Go.RowKit

set_option maxRecDepth 100000 in
set_option maxHeartbeats 1000000 in
/-- (*Level).UnmarshalText. -/
theorem unmarshal_any (v : Value) (l : List UInt8) (b : Nat) (old : Int) (w : World) (hv : Lies w v l) (hs : l.length ≤ 1000000) (ha : ∀ b ∈ l, b.toNat < 128) (hc : w.cell? ⟨b, 0, none⟩ = some (.int .i64 old)) (hf : w.frozen? ⟨b, 0, none⟩ = false) (hE : Env w) :
    Calls Tryd.prog 25 #[.pointer (some ⟨b, 0, none⟩), v] w (ReadPost l b w) := by
  have cR : Calls Tryd.prog 40 #[.pointer (some ⟨b, 0, none⟩), .string ⟨l.toArray⟩] w (ReadPost l b w) := read_any ⟨l.toArray⟩ b old (by rw [size_eq]; exact hs) ha w hc hf hE
  have hcv := hv.convert (P := Tryd.prog) 41 9 5 Tryd.underlying41 Tryd.underlying5 Tryd.underlying9
  have CR := Lib.hid cR
  obtain ⟨Q, hQ⟩ : ∃ Q, Q = ReadPost l b w := ⟨_, rfl⟩
  rw [← hQ]
  have HQ := Lib.hid hQ
  clear cR hv hE ha hQ hc hf
  unfold ReadPost at CR
  obtain ⟨L, hL⟩ : ∃ L, L = levelOf l := ⟨_, rfl⟩
  rw [← hL] at CR
  have HL := Lib.hid hL
  clear hL
  cases L with
  | none =>
    go_enter Tryd.func25, Tryd.ntmps25
    go_wp2_with (first | (go_at_call 40; refine CR.out.mono ?_; rintro e w1 ⟨t, x, rfl, hb⟩; have HB := Lib.hid hb; clear hb))
    rw [HQ.out]
    unfold ReadPost
    rw [← HL.out]
    exact ⟨t, x, rfl, HB.out⟩
  | some n =>
    go_enter Tryd.func25, Tryd.ntmps25
    go_wp2_with (first | (go_at_call 40; refine CR.out.mono ?_; rintro e w1 ⟨rfl, hb⟩; have HB := Lib.hid hb; clear hb))
    rw [HQ.out]
    unfold ReadPost
    rw [← HL.out]
    exact ⟨rfl, HB.out⟩

theorem below_drewN {B : Nat} {a w : World} (h : Below B a w) (n : Nat) : Below B a (w.drewN n) := ⟨h.os, h.tape, h.output, h.size, h.block⟩

theorem start_facts (w : World) (was : Int) (s : ByteArray) : (bytesWorld (w.alloc (.cells #[.int .i64 was] 42 (0, 0))) 5 s).cell? ⟨w.heap.size, 0, none⟩ = some (.int .i64 was) ∧
    (bytesWorld (w.alloc (.cells #[.int .i64 was] 42 (0, 0))) 5 s).frozen? ⟨w.heap.size, 0, none⟩ = false ∧ Below w.heap.size w (bytesWorld (w.alloc (.cells #[.int .i64 was] 42 (0, 0))) 5 s) ∧
    w.heap.size < (bytesWorld (w.alloc (.cells #[.int .i64 was] 42 (0, 0))) 5 s).heap.size := by
  have hb := bytesWorld_below (w.alloc (.cells #[.int .i64 was] 42 (0, 0))) 5 s
  have hz : (w.alloc (.cells #[.int .i64 was] 42 (0, 0))).heap.size = w.heap.size + 1 := by simp
  refine ⟨(hb.cell (by rw [hz]; exact Nat.lt_succ_self _)).trans (by simp), (hb.frozen (by rw [hz]; exact Nat.lt_succ_self _)).trans (by simp), ?_, ?_⟩
  · exact ((Below.refl _ _).alloc (Nat.le_refl _) _).trans (hb.mono (by omega))
  · have := hb.size; omega

theorem below_but {w x y : World} (h1 : Below w.heap.size w x) (h2 : But w.heap.size x y) : Below w.heap.size w y :=
  h1.trans ⟨h2.os, h2.tape, h2.output, h2.size, fun i hi => h2.block i (by have := h1.size; omega) (fun e => by have := Option.some.inj e; omega)⟩

set_option maxRecDepth 100000 in
set_option maxHeartbeats 1000000 in
/-- impl.LevelParse. -/
theorem levelParse_any (s : ByteArray) (was : Int) (hs : s.size ≤ 1000000) (ha : ∀ b ∈ s.data.toList, b.toNat < 128) (w : World) (hE : Env w) :
    Calls Tryd.prog 11 #[.string s, .int .i64 was] w (ParsedPost s.data.toList was w) := by
  have hcv0 : ∀ (s : ByteArray) (w : World), (convert 9 41 (.string s)).run Tryd.prog w = .ok (.slice (some ⟨w.heap.size, 0, none⟩) s.size (grownCap w s.size 0 5)) (bytesWorld w 5 s) := fun s w =>
    Lib.run_convert_string_bytes w 9 41 5 s Tryd.underlying9 Tryd.underlying41 Tryd.underlying5
  obtain ⟨f1, f2, f3, f4⟩ := start_facts w was s
  have cR := fun c => unmarshal_any (.slice (some ⟨w.heap.size + 1, 0, none⟩) s.size c) s.data.toList w.heap.size was (bytesWorld (w.alloc (.cells #[.int .i64 was] 42 (0, 0))) 5 s)
    (by have h := lies_conv (w.alloc (.cells #[.int .i64 was] 42 (0, 0))) 5 s c; simpa using h) (by rw [← size_eq]; exact hs) ha f1 f2 (hE.on f3)
  have F3 := Lib.hid f3
  obtain ⟨Q, hQ⟩ : ∃ Q, Q = ParsedPost s.data.toList was w := ⟨_, rfl⟩
  rw [← hQ]
  have HQ := Lib.hid hQ
  clear hQ ha hE f3
  unfold ReadPost at cR
  obtain ⟨L, hL⟩ : ∃ L, L = levelOf s.data.toList := ⟨_, rfl⟩
  rw [← hL] at cR
  have HL := Lib.hid hL
  clear hL
  cases L with
  | none =>
    simp only at cR
    have CR := Lib.hid cR
    clear cR
    go_enter Tryd.func11, Tryd.ntmps11
    go_wp2_with (first | (go_at_call 25; refine (CR.out _).mono ?_; rintro e w1 ⟨t, x, rfl, hb⟩; have k1 := ((bcell hb).1 _ 0 f4).trans f1; have HB := Lib.hid hb; clear hb))
    go_quiet (fail)
    go_wp2
    rw [HQ.out]
    unfold ParsedPost
    rw [← HL.out]
    exact ⟨rfl, below_drewN (F3.out.trans (HB.out.mono (Nat.le_of_lt f4))) _⟩
  | some n =>
    simp only at cR
    have CR := Lib.hid cR
    clear cR
    go_enter Tryd.func11, Tryd.ntmps11
    go_wp2_with (first | (go_at_call 25; refine (CR.out _).mono ?_; rintro e w1 ⟨rfl, k1, hb⟩; have HB := Lib.hid hb; clear hb))
    go_quiet (fail)
    go_wp2
    rw [HQ.out]
    unfold ParsedPost
    rw [← HL.out]
    exact ⟨rfl, below_drewN (below_but F3.out HB.out) _⟩

/-! ### The listed variables -/
theorem star : "*" ++ "errors.errorString" = "*errors.errorString" := by decide
theorem row90 (u : TypeId) (h : Tryd.prog.typeName? 3 u = some "*errors.errorString") : u = 90 :=
  typeName_ptr_named (nm := "errors.errorString") (by rw [star]; kernel_rfl) (by kernel_rfl) (by decide) u (by rw [star]; exact h)
theorem cells92 : Tryd.prog.cellsOf 92 = 1 := by kernel_rfl
theorem cells9 : Tryd.prog.cellsOf 9 = 1 := by kernel_rfl

/-- The list of the five laws that read a level. -/
theorem env_of {W : World} (h : laidMet Tryd.prog Rows.fnLvParseRow.laid W) : Env W ∧ Pow W := by
  have h4 := h.tail.tail.tail.tail
  have h5 := h4.tail
  obtain ⟨a0, s0, v0, c0, l0, z0⟩ := laid_sentinel h4 (g := 6) (by kernel_rfl) (by kernel_rfl) Tryd.underlying44 row90 Tryd.underlying90 Tryd.underlying92 rfl rfl Tryd.underlying9 cells92 cells9
  obtain ⟨a1, s1, v1, c1, l1, z1⟩ := laid_sentinel h5 (g := 0) (by kernel_rfl) (by kernel_rfl) Tryd.underlying44 row90 Tryd.underlying90 Tryd.underlying92 rfl rfl Tryd.underlying9 cells92 cells9
  refine ⟨⟨print_of h (.tail _ (.tail _ (.tail _ (.tail _ (.tail _ (.tail _ (.tail _ (.tail _ (.tail _ (.head _)))))))))) (.tail _ (.tail _ (.tail _ (.tail _ (.tail _ (.tail _ (.tail _ (.head _)))))))) (.tail _ (.tail _ (.tail _ (.tail _ (.tail _ (.tail _ (.tail _ (.tail _ (.tail _ (.tail _ (.head _))))))))))) (.tail _ (.tail _ (.tail _ (.tail _ (.tail _ (.tail _ (.tail _ (.tail _ (.head _))))))))), utf8_of h (.tail _ (.tail _ (.tail _ (.tail _ (.tail _ (.tail _ (.tail _ (.tail _ (.tail _ (.tail _ (.tail _ (.tail _ (.head _))))))))))))) (.tail _ (.tail _ (.tail _ (.head _)))), ⟨a1, s1, v1, c1, ?_⟩, ⟨a0, s0, v0, c0, ?_⟩⟩, pow_of h (.tail _ (.tail _ (.head _)))⟩
  · rw [size_eq, l1]; decide
  · rw [size_eq, l0]; decide

end Go.Proofs.YtconeignnananaaDoor.Lv
