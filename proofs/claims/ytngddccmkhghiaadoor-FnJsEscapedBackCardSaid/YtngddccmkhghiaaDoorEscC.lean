/- The program's own text: appendEscapedJSONString adds to an empty buffer what stands for the string. -/
import Derived.Test.YtngddccmkhghiaaDoorEscB
import Derived.BigQuiet
import Derived.Deep.QuietTactic
namespace Go.Proofs.YtngddccmkhghiaaDoor.Esc
open Go Go.Lib Go.RowKit

/-- Which bytes stand as they are: safeSet. -/
def safeB (b : Nat) : Bool := decide (32 ≤ b ∧ b < 128 ∧ b ≠ 34 ∧ b ≠ 92)
def SafeTab (w : World) : Prop := ∀ b, b < 128 → w.cell? ⟨3, b, none⟩ = some (.bool (safeB b))

/-- One round: what has come out; from st on what is still to be copied; what stands for the rest. -/
def Rnd2 (s : ByteArray) (W : World) (st i : Value) (wr : World) : Prop :=
  ∃ (k a : Nat) (l : List UInt8), a ≤ k ∧ k ≤ s.size ∧ i = .int .i64 k ∧ st = .int .i64 a ∧ l ++ ((s.data.toList.take k).drop a ++ esc (s.data.toList.drop k)) = esc s.data.toList ∧ Buf W wr W.heap.size l

theorem rnd2_out {s : ByteArray} {W w1 : World} {k a n : Nat} {l lo p : List UInt8} {i : Int} (hk : k + n ≤ s.size) (hi : i = k + n)
    (hl : l ++ ((s.data.toList.take k).drop a ++ esc (s.data.toList.drop k)) = esc s.data.toList)
    (hp : esc (s.data.toList.drop k) = p ++ esc (s.data.toList.drop (k + n))) (hB : Buf W w1 W.heap.size lo) (hlo : lo = l ++ ((s.data.toList.take k).drop a ++ p)) :
    Rnd2 s W (.int .i64 i) (.int .i64 i) w1 := by
  refine ⟨k + n, k + n, lo, Nat.le_refl _, hk, by rw [hi]; congr 1, by rw [hi]; congr 1, ?_, hB⟩
  rw [← hl, hp, hlo]
  simp

theorem ascii_piece (s : ByteArray) (k : Nat) (hk : k < s.size) (h : s[k].toNat < 128) :
    esc (s.data.toList.drop k) = piece s[k].toNat ((s.data.toList.drop k).take 1) ++ esc (s.data.toList.drop (k + 1)) := by
  have := esc_at s k hk
  rw [decode_ascii s k hk h] at this
  exact this

theorem flush_eq (s : ByteArray) (a k : Nat) : (s.extract a k).data.toList = (s.data.toList.take k).drop a := by
  rw [extract_data, List.drop_take]

theorem str_ext (s : ByteArray) (a b : Nat) (W : World) (g : Nat) (l : List UInt8) (w : World) (hB : Buf W w g l) (hl : l.length + s.size ≤ 1000000000) :
    Calls Tryd.prog 27 #[.string (s.extract a b), .pointer (some ⟨g, 0, none⟩)] w (CharPost W g (l ++ (s.extract a b).data.toList)) :=
  str_any _ W g l w hB (by have h : (s.extract a b).size ≤ s.size := by (rw [size_eq, extract_data, List.length_take, List.length_drop, ← size_eq]; omega)
                           omega)
theorem str_lit (x : Array UInt8) (W : World) (g : Nat) (l : List UInt8) (w : World) (hB : Buf W w g l) (hl : l.length + x.size ≤ 1000000000) :
    Calls Tryd.prog 27 #[.string ⟨x⟩, .pointer (some ⟨g, 0, none⟩)] w (CharPost W g (l ++ x.toList)) := str_any ⟨x⟩ W g l w hB hl

theorem char_u (u : UInt8) (W : World) (g : Nat) (l : List UInt8) (w : World) (hB : Buf W w g l) (hl : l.length + 1 ≤ 1000000000) :
    Calls Tryd.prog 26 #[.int .u8 u.toNat, .pointer (some ⟨g, 0, none⟩)] w (CharPost W g (l ++ [u])) := by
  have h := char_any u.toNat (by omega) (by have := u.toNat_lt; omega) W g l w hB hl
  simpa using h

theorem hex_get (i : Nat) (h : i < (⟨#[48, 49, 50, 51, 52, 53, 54, 55, 56, 57, 97, 98, 99, 100, 101, 102]⟩ : ByteArray).size) :
    (⟨#[48, 49, 50, 51, 52, 53, 54, 55, 56, 57, 97, 98, 99, 100, 101, 102]⟩ : ByteArray)[i] = hexD i := by
  have h' : i < 16 := h
  have : i = 0 ∨ i = 1 ∨ i = 2 ∨ i = 3 ∨ i = 4 ∨ i = 5 ∨ i = 6 ∨ i = 7 ∨ i = 8 ∨ i = 9 ∨ i = 10 ∨ i = 11 ∨ i = 12 ∨ i = 13 ∨ i = 14 ∨ i = 15 := by omega
  rcases this with rfl | rfl | rfl | rfl | rfl | rfl | rfl | rfl | rfl | rfl | rfl | rfl | rfl | rfl | rfl | rfl <;> rfl

theorem safe_no {b : Nat} (hb : b < 128) (h : safeB b = false) : b = 92 ∨ b = 34 ∨ b < 32 := by
  simp [safeB] at h
  omega

theorem rnd2_keep {s : ByteArray} {W w1 : World} {k a n : Nat} {l : List UInt8} {i : Int} (hak : a ≤ k) (hk : k + n ≤ s.size) (hi : i = k + n)
    (hl : l ++ ((s.data.toList.take k).drop a ++ esc (s.data.toList.drop k)) = esc s.data.toList)
    (hp : esc (s.data.toList.drop k) = (s.data.toList.drop k).take n ++ esc (s.data.toList.drop (k + n))) (hB : Buf W w1 W.heap.size l) :
    Rnd2 s W (.int .i64 a) (.int .i64 i) w1 := by
  refine ⟨k + n, a, l, by omega, hk, by rw [hi]; congr 1, rfl, ?_, hB⟩
  rw [← hl, hp, List.take_add, List.drop_append_of_le_length (by rw [List.length_take, ← size_eq]; omega)]
  simp

theorem piece_raw {c : Nat} {raw : List UInt8} (h : 128 ≤ c) (h1 : c ≠ 8232) (h2 : c ≠ 8233) (h3 : c ≠ 65533) : piece c raw = raw := by
  unfold piece
  repeat (first | rw [if_neg (by omega)] | rw [if_pos (by omega)])

theorem piece_safe {b : Nat} {raw : List UInt8} (h : safeB b = true) : piece b raw = raw := by
  simp [safeB] at h
  unfold piece
  repeat (first | rw [if_neg (by omega)] | rw [if_pos (by omega)])

/-- U+FFFD that stands there is its own three bytes. -/
theorem fffd_raw (s : ByteArray) (k : Nat) (hk : k < s.size) : (Utf8.decode s k).1 = 65533 → (Utf8.decode s k).2 ≠ 1 → [239, 191, 189] = (s.data.toList.drop k).take (Utf8.decode s k).2 := by
  intro h1 h2
  have hne : s.data.toList.drop k ≠ [] := by
    intro h
    have := congrArg List.length h
    rw [List.length_drop, ← size_eq] at this
    simp at this
    omega
  have he := encode_decode (s.data.toList.drop k) hne (by rw [decodeL_drop]; omega)
  rw [decodeL_drop, h1] at he
  rw [← he]
  decide

set_option maxRecDepth 100000 in
set_option maxHeartbeats 4000000 in
theorem impl_any (s : ByteArray) (w : World) (hs : s.size ≤ 1000000) (hT : Lib.Utf8Tabs 0 1 w) (hS : SafeTab w) :
    Calls Tryd.prog 19 #[.slice none 0 0, .string s] w fun e w' => (∃ A n c, e = .returned (.slice A n c) ∧ w'.ownsRow (w.heap.size + 1) 5 1 (.slice A n c) n (u8s (esc s.data.toList))) ∧ Below w.heap.size w w' := by
  go_enter Tryd.func19, Tryd.ntmps19
  have hmf : ∀ (fn : Fn) (first cap : Array Value) (w : World), (Instr.makeFunc fn first cap).run Tryd.prog w = .ok (.func fn first cap) w := fun _ _ _ _ => rfl
  go_wp2
  go_loopw [7, 8] (fun st i wr => Rnd2 s w st i wr) (fun _ i _ => s.size - (RowKit.intOf i).toNat)
  case atStart => exact ⟨0, 0, [], Nat.le_refl _, Nat.zero_le _, rfl, rfl, by simp, buf_new w⟩
  case round =>
    obtain ⟨k, a, l, hak, hk, rfl, rfl, hl, hB⟩ := hrel
    have hg3 : 3 < w.heap.size := World.block_lt_of_cell? w _ (hS 0 (by decide))
    have hBW : Below w.heap.size w wr := by obtain ⟨_, _, _, _, _, h⟩ := hB; exact h
    have hlo : l.length ≤ 7000000 := by
      have h1 := esc_len s.data.toList
      have h2 := congrArg List.length hl
      rw [List.length_append] at h2
      rw [← size_eq] at h1
      omega
    by_cases hlt : k < s.size
    · by_cases hb : s[k].toNat < 128
      · have hsafe : wr.cell? ⟨3, s[k].toNat, none⟩ = some (.bool (safeB s[k].toNat)) := (hBW.cell (p := ⟨3, s[k].toNat, none⟩) hg3).trans (hS _ hb)
        have HBW := Lib.hid hBW
        have HL := Lib.hid hl
        have HT := Lib.hid hT
        clear hBW hl hT hS hg3
        cases hsb : safeB s[k].toNat with
        | true =>
          rw [hsb] at hsafe
          have Hsb := Lib.hid hsb
          clear hsb
          go_wp2_with fail
          exact ⟨rnd2_keep (n := 1) hak (by omega) (by omega) HL.out ((ascii_piece s k hlt hb).trans (by rw [piece_safe Hsb.out])) hB, by simp [RowKit.intOf]; omega⟩
        | false =>
          rw [hsb] at hsafe
          rcases safe_no hb hsb with hx | hx | hx
          all_goals
            have t92 : ((s[k].toNat : Int) == 92) = decide (s[k].toNat = 92) := by rw [Bool.eq_iff_iff]; simp; omega
            have t34 : ((s[k].toNat : Int) == 34) = decide (s[k].toNat = 34) := by rw [Bool.eq_iff_iff]; simp; omega
            have Hx := Lib.hid hx
            first
              | rw [decide_eq_true hx] at t92
              | (rw [decide_eq_false (by omega)] at t92; rw [decide_eq_true hx] at t34)
              | (rw [decide_eq_false (by omega)] at t92; rw [decide_eq_false (by omega)] at t34)
            first
              | (have : s[k].toNat < 32 := hx)
              | clear hx
            clear hsb
            have hext : (s.extract a k).data.toList.length ≤ s.size := by (rw [extract_data, List.length_take, List.length_drop, ← size_eq]; omega)
            by_cases hak' : a < k
            all_goals
              go_wp2_with (first
                | (go_at_call 26; (with_reducible refine (char_u _ _ _ _ _ (by assumption) ?_).mono ?_); (try simp only [List.length_append, List.length_cons, List.length_nil]); omega; rintro e w1 ⟨rfl, hB1⟩)
                | (go_at_call 26; refine (char_any _ (by omega) (by omega) _ _ _ _ (by assumption) (by simp; omega)).mono ?_; rintro e w1 ⟨rfl, hB1⟩)
                | (go_at_call 27; (with_reducible refine (str_ext _ _ _ _ _ _ _ (by assumption) ?_).mono ?_); (try simp only [List.length_append, List.length_cons, List.length_nil]); omega; rintro e w1 ⟨rfl, hB1⟩)
                | (go_at_call 27; (with_reducible refine (str_lit _ _ _ _ _ (by assumption) ?_).mono ?_); (try simp only [List.length_append, List.length_cons, List.length_nil, List.size_toArray]); omega; rintro e w1 ⟨rfl, hB1⟩))
              all_goals
                refine ⟨rnd2_out (n := 1) (by omega) (by omega) HL.out (ascii_piece s k hlt hb) (by assumption) ?_, by simp [RowKit.intOf]; omega⟩
                clear HL HBW HT hmf hsafe
                have hxx := Hx.out
                clear Hx
                simp only [beq_iff_eq, beq_eq_false_iff_ne, ne_eq] at *
                unfold piece
                repeat (first | rw [if_neg (by omega)] | rw [if_pos (by omega)])
                first
                  | (rw [flush_eq]; simp [hex_get]; done)
                  | (rw [flush_eq, show s[k] = 92 from UInt8.toNat_inj.1 hxx]; simp; done)
                  | (rw [flush_eq, show s[k] = 34 from UInt8.toNat_inj.1 hxx]; simp; done)
                  | (rw [show a = k by omega]; simp [hex_get]; done)
                  | (rw [show a = k by omega, show s[k] = 92 from UInt8.toNat_inj.1 hxx]; simp; done)
                  | (rw [show a = k by omega, show s[k] = 34 from UInt8.toNat_inj.1 hxx]; simp; done)

      · have hT1 := Lib.hid (tabs_below hT hBW)
        have hle := decode_le s k hlt
        have hat := esc_at s k hlt
        have hfffd := fffd_raw s k hlt
        have hdec := decode_rest s k hlt
        have hhi := decode_high s k hlt (by omega)
        have hext : (s.extract a k).data.toList.length ≤ s.size := by (rw [extract_data, List.length_take, List.length_drop, ← size_eq]; omega)
        obtain ⟨c, n, hcn⟩ : ∃ c n, Utf8.decode s k = (c, n) := ⟨_, _, rfl⟩
        rw [hcn] at hat hle hdec hhi hfffd
        clear hcn
        dsimp only at hat hle hhi hfffd
        have Hfffd := Lib.hid hfffd
        clear hfffd
        obtain ⟨hn1, hn2, hn3⟩ := hle
        have HL := Lib.hid hl
        have HAT := Lib.hid hat
        clear hl hat hT hS hBW hg3
        have hb' : ¬ ((s[k].toNat : Int) < 128) := by omega
        by_cases hbad : c = 65533 ∧ n = 1
        · obtain ⟨rfl, rfl⟩ := hbad
          by_cases hak' : a < k
          all_goals
            go_wp2_with (first
              | (go_at_call 15; refine (Tryd.utf8_DecodeRuneInString _ _ hT1.out).mono ?_; rintro e w1 ⟨rfl, hb1⟩; have hB1 := buf_keep hB hb1)
              | (go_at_call 27; (with_reducible refine (str_ext _ _ _ _ _ _ _ (by assumption) ?_).mono ?_); (try simp only [List.length_append, List.length_cons, List.length_nil]); omega; rintro e w1 ⟨rfl, hB1⟩)
              | (go_at_call 27; (with_reducible refine (str_lit _ _ _ _ _ (by assumption) ?_).mono ?_); (try simp only [List.length_append, List.length_cons, List.length_nil, List.size_toArray]); omega; rintro e w1 ⟨rfl, hB1⟩))
            refine ⟨rnd2_out (n := 1) (by omega) (by omega) HL.out HAT.out (by assumption) ?_, by simp [RowKit.intOf]; omega⟩
            first
              | (rw [flush_eq]; simp [piece]; done)
              | (rw [show a = k by omega]; simp [piece]; done)
        · have hbad' : ((c : Int) == 65533 && (n : Int) == 1) = false := by
            rw [Bool.eq_false_iff]
            intro h
            simp at h
            omega
          by_cases hs8 : c = 8232 ∨ c = 8233
          · have b8 : bits BinOp.and IntKind.i32 8232 15 = 8 := by decide
            have b9 : bits BinOp.and IntKind.i32 8233 15 = 9 := by decide
            have hc0 : ((c : Int) == 65533) = false := by simp; omega
            by_cases hak' : a < k
            all_goals
              rcases hs8 with rfl | rfl
              all_goals
                go_wp2_with (first
                  | (go_at_call 15; refine (Tryd.utf8_DecodeRuneInString _ _ hT1.out).mono ?_; rintro e w1 ⟨rfl, hb1⟩; have hB1 := buf_keep hB hb1)
                  | (go_at_call 26; (with_reducible refine (char_u _ _ _ _ _ (by assumption) ?_).mono ?_); (try simp only [List.length_append, List.length_cons, List.length_nil]); omega; rintro e w1 ⟨rfl, hB1⟩)
                  | (go_at_call 26; refine (char_any _ (by omega) (by omega) _ _ _ _ (by assumption) (by simp; omega)).mono ?_; rintro e w1 ⟨rfl, hB1⟩)
                  | (go_at_call 27; (with_reducible refine (str_ext _ _ _ _ _ _ _ (by assumption) ?_).mono ?_); (try simp only [List.length_append, List.length_cons, List.length_nil]); omega; rintro e w1 ⟨rfl, hB1⟩)
                  | (go_at_call 27; (with_reducible refine (str_lit _ _ _ _ _ (by assumption) ?_).mono ?_); (try simp only [List.length_append, List.length_cons, List.length_nil, List.size_toArray]); omega; rintro e w1 ⟨rfl, hB1⟩))
                refine ⟨rnd2_out (n := n) (by omega) (by omega) HL.out HAT.out (by assumption) ?_, by simp [RowKit.intOf]; omega⟩
                first
                  | (rw [flush_eq]; simp [piece, hex_get, hexD]; done)
                  | (rw [show a = k by omega]; simp [piece, hex_get, hexD]; done)
          · have hc1' : c ≠ 8232 := by omega
            have hc2' : c ≠ 8233 := by omega
            have hc1 : ((c : Int) == 8232) = false := by simp; omega
            have hc2 : ((c : Int) == 8233) = false := by simp; omega
            by_cases hfd : c = 65533
            · subst hfd
              have Hn := Lib.hid (show n ≠ 1 by omega)
              have hn0 : ((n : Int) == 1) = false := by simp; omega
              go_wp2_with (go_at_call 15; refine (Tryd.utf8_DecodeRuneInString _ _ hT1.out).mono ?_; rintro e w1 ⟨rfl, hb1⟩; have hB1 := buf_keep hB hb1)
              exact ⟨rnd2_keep hak hn2 rfl HL.out (HAT.out.trans (by rw [← Hfffd.out trivial Hn.out]; rfl)) hB1, by simp [RowKit.intOf]; omega⟩
            · have hc0 : ((c : Int) == 65533) = false := by simp; omega
              go_wp2_with (go_at_call 15; refine (Tryd.utf8_DecodeRuneInString _ _ hT1.out).mono ?_; rintro e w1 ⟨rfl, hb1⟩; have hB1 := buf_keep hB hb1)
              exact ⟨rnd2_keep hak hn2 rfl HL.out (HAT.out.trans (by rw [piece_raw (by omega) hc1' hc2' hfd])) hB1, by simp [RowKit.intOf]; omega⟩
    · have hke : k = s.size := by omega
      subst hke
      have hl' : l ++ s.data.toList.drop a = esc s.data.toList := by
        have h0 : s.data.toList.drop s.size = [] := List.drop_eq_nil_of_le (by rw [← size_eq]; exact Nat.le_refl _)
        have h1 : s.data.toList.take s.size = s.data.toList := List.take_of_length_le (by rw [← size_eq]; exact Nat.le_refl _)
        rw [h0, h1, esc_nil, List.append_nil] at hl
        exact hl
      clear hl hS hT hg3 hBW
      by_cases hak' : a < s.size
      · go_wp2_with (first
          | (go_at_call 27; refine (str_ext s a s.size _ _ _ _ (by assumption) (by omega)).mono ?_; rintro e w1 ⟨rfl, v1, hc1, hf1, hown1, hg1, hW1⟩; obtain ⟨A1, c1, rfl⟩ := own_shape hown1; have Fin := Lib.hid (And.intro hown1 hW1); clear hown1 hW1 hf1 hg1))
        go_ret
        refine ⟨⟨_, _, _, rfl, ?_⟩, Fin.out.2⟩
        have e : l ++ (s.extract a s.size).data.toList = esc s.data.toList := by rw [extract_to_end, hl']
        have hxl : (s.extract a s.size).data.toList.length = s.size - a := by rw [extract_to_end, List.length_drop, ← size_eq]
        rw [← e]
        have h := Fin.out.1
        rw [List.length_append, hxl] at h
        exact h
      · obtain ⟨v1, hc1, hf1, hown1, hg1, hW1⟩ := hB
        obtain ⟨A1, c1, rfl⟩ := own_shape hown1
        have hae : a = s.size := by omega
        have h0 : s.data.toList.drop a = [] := List.drop_eq_nil_of_le (by rw [← size_eq]; omega)
        rw [h0, List.append_nil] at hl'
        have Hl := Lib.hid hl'
        have Fin := Lib.hid (And.intro hown1 hW1)
        clear hown1 hW1 hf1 hg1 hl' h0 hae
        go_wp2
        go_ret
        refine ⟨⟨_, _, _, rfl, ?_⟩, Fin.out.2⟩
        rw [← Hl.out]
        exact Fin.out.1
end Go.Proofs.YtngddccmkhghiaaDoor.Esc
