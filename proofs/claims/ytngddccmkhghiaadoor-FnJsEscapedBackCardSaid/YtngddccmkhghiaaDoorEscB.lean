/- The reference's text of a string in JSON: spec.JsEscaped gives what stands for it, rune by rune. -/
import Derived.Test.YtngddccmkhghiaaDoorEscA
import Derived.Test.YtngddccmkhghiaaDoorShelf
import Derived.Laws.Concat
namespace Go.Proofs.YtngddccmkhghiaaDoor.Esc
open Go Go.Lib Go.RowKit

theorem hex_any (n : Nat) (hn : n < 16) (w : World) :
    Calls Tryd.prog 16 #[.int .i64 n] w fun e w' => e = .returned (.string ⟨#[hexD n]⟩) ∧ w' = w := by
  have h : n = 0 ∨ n = 1 ∨ n = 2 ∨ n = 3 ∨ n = 4 ∨ n = 5 ∨ n = 6 ∨ n = 7 ∨ n = 8 ∨ n = 9 ∨ n = 10 ∨ n = 11 ∨ n = 12 ∨ n = 13 ∨ n = 14 ∨ n = 15 := by omega
  clear hn
  rcases h with rfl | rfl | rfl | rfl | rfl | rfl | rfl | rfl | rfl | rfl | rfl | rfl | rfl | rfl | rfl | rfl
  all_goals
    go_enter Tryd.func16, Tryd.ntmps16
    go_wp2
    go_ret
    exact ⟨rfl, rfl⟩

theorem tabs_below {w w' : World} (h : Lib.Utf8Tabs 0 1 w) (hb : Below w.heap.size w w') : Lib.Utf8Tabs 0 1 w' := by
  have h0 : 0 < w.heap.size := World.block_lt_of_cell? w _ (h.1 0 (by decide))
  have h1 : 1 < w.heap.size := World.block_lt_of_cell? w _ (h.2 0 (by decide)).1
  exact ⟨fun c hc => (hb.cell (p := ⟨0, c, none⟩) h0).trans (h.1 c hc), fun i hi => ⟨(hb.cell (p := ⟨1, 2 * i, none⟩) h1).trans (h.2 i hi).1, (hb.cell (p := ⟨1, 2 * i + 1, none⟩) h1).trans (h.2 i hi).2⟩⟩

/-- What is decoded of the rest of a text. -/
theorem decode_rest (s : ByteArray) (k : Nat) (hk : k < s.size) : Lib.decodeGo (s.extract k s.size) = Utf8.decode s k := by
  have hsz : (s.extract k s.size).size = s.size - k := by rw [size_eq, extract_to_end, List.length_drop, ← size_eq]
  have h := decodeL_drop (s.extract k s.size) 0
  rw [List.drop_zero, extract_to_end, decodeL_drop] at h
  rw [h]
  unfold Lib.decodeGo
  split
  · omega
  · rfl

theorem hex_int (a : Int) (h0 : 0 ≤ a) (h1 : a < 16) (w : World) :
    Calls Tryd.prog 16 #[.int .i64 a] w fun e w' => e = .returned (.string ⟨#[hexD a.toNat]⟩) ∧ w = w' := by
  obtain ⟨n, rfl⟩ : ∃ n : Nat, a = n := ⟨a.toNat, by omega⟩
  refine (hex_any n (by omega) w).mono ?_
  rintro e w' ⟨rfl, rfl⟩
  exact ⟨rfl, rfl⟩

/-- One round: what has come out, and what stands for the rest. -/
def Rnd (s : ByteArray) (w : World) (o i : Value) (wr : World) : Prop :=
  ∃ (k : Nat) (l : ByteArray), k ≤ s.size ∧ i = .int .i64 k ∧ o = .string l ∧ l.data.toList ++ esc (s.data.toList.drop k) = esc s.data.toList ∧ Below w.heap.size w wr

theorem rnd_step {s : ByteArray} {w w1 : World} {k n : Nat} {l x : ByteArray} {p : List UInt8} (hk : k + n ≤ s.size) (hl : l.data.toList ++ (p ++ esc (s.data.toList.drop (k + n))) = esc s.data.toList)
    (hb : Below w.heap.size w w1) (hx : x.data.toList = p) : Rnd s w (.string (l ++ x)) (.int .i64 ((k : Int) + n)) w1 :=
  ⟨k + n, l ++ x, hk, by congr 1, rfl, by rw [← hl, ← hx]; simp, hb⟩

set_option maxRecDepth 100000 in
set_option maxHeartbeats 2000000 in
theorem spec_any (s : ByteArray) (w : World) (hs : s.size ≤ 1000000) (hT : Lib.Utf8Tabs 0 1 w) :
    Calls Tryd.prog 9 #[.string s] w fun e w' => (∃ o : ByteArray, e = .returned (.string o) ∧ o.data.toList = esc s.data.toList) ∧ Below w.heap.size w w' := by
  go_enter Tryd.func9, Tryd.ntmps9
  go_wp2
  go_loopw [3, 4] (fun o i wr => Rnd s w o i wr) (fun _ i _ => s.size - (RowKit.intOf i).toNat)
  case atStart => exact ⟨0, ByteArray.empty, Nat.zero_le _, rfl, rfl, by simp, Below.refl _ _⟩
  case round =>
    obtain ⟨k, l, hk, rfl, rfl, hl, hb⟩ := hrel
    have hls : l.size ≤ 7000000 := by
      have h1 := esc_len s.data.toList
      have h2 := congrArg List.length hl
      rw [List.length_append, ← size_eq] at h2
      rw [← size_eq] at h1
      omega
    by_cases hlt : k < s.size
    · have hat := esc_at s k hlt
      have hle := decode_le s k hlt
      have hdec := decode_rest s k hlt
      rw [hat] at hl
      clear hat
      obtain ⟨c, n, hcn⟩ : ∃ c n, Utf8.decode s k = (c, n) := ⟨_, _, rfl⟩
      rw [hcn] at hl hle hdec
      clear hcn
      dsimp only at hl hle
      obtain ⟨hn1, hn2, hn3⟩ := hle
      have hT1 := Lib.hid (tabs_below hT hb)
      have HL := Lib.hid hl
      clear hl
      go_wp2_with (first
        | (go_at_call 15; refine (Tryd.utf8_DecodeRuneInString _ _ hT1.out).mono ?_; rintro e w1 ⟨rfl, hb1⟩)
        | (go_at_call 16; refine (hex_int _ (by omega) (by omega) _).mono ?_; rintro e w1 ⟨rfl, rfl⟩))
      all_goals
        refine ⟨rnd_step hn2 HL.out (hb.trans (hb1.mono hb.size)) ?_, by simp [RowKit.intOf]; omega⟩
        clear HL hdec hT1 hT hb hb1 hls hs
        simp only [beq_iff_eq, beq_eq_false_iff_ne, ne_eq] at *
        unfold piece
        repeat (first | rw [if_neg (by omega)] | rw [if_pos (by omega)])
        try (first | rfl | (rw [extract_data]; congr 1; omega))
    · go_wp2
      go_ret
      rw [List.drop_eq_nil_of_le (by rw [← size_eq]; omega)] at hl
      exact ⟨⟨l, rfl, by simpa [esc_nil] using hl⟩, hb⟩
end Go.Proofs.YtngddccmkhghiaaDoor.Esc
