/- A level as text and as JSON: MarshalText, AppendText, MarshalJSON: the walks. -/
import Derived.Test.YtconeignnananaaDoorLvA
import Derived.Test.YtconeignnananaaDoorLvM
import Derived.OwnWalk
import Derived.Laws.CopyRow
import Derived.Deep.LoopGhost
import Derived.Lib.QuoteLoop
namespace Go.Proofs.YtconeignnananaaDoor.Lv
set_option linter.unusedVariables false
set_option linter.unusedSimpArgs false
open Go Go.Lib Go.RowKit

theorem info5 : (Tryd.prog.info? 5).map (fun i => (i.zero, i.size, i.bytes)) = some (some (.int .u8 0), 1, 1) := by kernel_rfl

/-- Signs that stand in quotation marks as they are. -/
def Clear (l : List UInt8) : Prop := ∀ b ∈ l, 32 < b.toNat ∧ b.toNat < 127 ∧ b.toNat ≠ 34 ∧ b.toNat ≠ 92

theorem escRune_clear (T : PrintTabs) (b : UInt8) (h : 32 < b.toNat ∧ b.toNat < 127 ∧ b.toNat ≠ 34 ∧ b.toNat ≠ 92) : escRune T (b.toNat : Int) = [(b.toNat : Int)] := by
  unfold escRune
  rw [if_neg (by omega), if_pos (by unfold isPrintR isPrintLatin; rw [if_pos (by omega)]; simp; omega), encodeRuneZ_one (by omega) (by omega)]

theorem intCells_byte (b : UInt8) : intCells [(b.toNat : Int)] = byteCells [b] := rfl
theorem byteCells_append (a b : List UInt8) : byteCells (a ++ b) = byteCells a ++ byteCells b := by simp [byteCells]

def QuotePost (W : World) (l : List UInt8) (e : Ending) (w' : World) : Prop := ∃ v', e = .returned v' ∧ OwnBuf W.heap.size 5 v' (l.length + 2) (byteCells (34 :: (l ++ [34]))) W w'

theorem valid_lo (r : Nat) (h : r < 55296) : validRune (r : Int) = true := by
  unfold validRune
  simp
  omega

theorem buf_made {w w1 : World} {v : Value} (h : w1.ownsRow w.heap.size 5 1 v 0 []) (hg : w.grownBy w1 none) : OwnBuf w.heap.size 5 v 0 [] w w1 :=
  ⟨World.ownsRowF_of h, (Below.refl _ _).grown hg (Nat.le_refl _) (by intro k hk; cases hk), hg.size⟩

set_option maxRecDepth 100000 in
set_option maxHeartbeats 2000000 in
/-- strconv.appendQuotedWith onto nothing, of signs that stand as they are. -/
theorem quoted_clear (T : PrintTabs) (s : ByteArray) (w : World) (h1 : 1 ≤ s.size) (h2 : s.size ≤ 1000000) (hc : Clear s.data.toList) (hT : PrintTabsAt 9 10 11 12 T w) :
    Calls Tryd.prog 59 #[.slice none 0 0, .string s, .int .u8 34, .bool false, .bool false] w (QuotePost w s.data.toList) := by
  obtain ⟨i0, hi, hz0, hz1, hz2⟩ := info_parts info5
  have hcp : ∀ (w : World) (ty : TypeId) (a : Addr) (c : Nat), (Builtin.copy_ #[41, 41] ty #[.slice (some a) 0 c, .slice none 0 0]).run Tryd.prog w = .ok (goInt 0) w := fun w ty a c =>
    run_copy_nil Tryd.prog w 41 41 ty 5 a 0 c Tryd.underlying41 (by rw [hi]; rfl)
  have hlt : (0 : Int) < (s.size : Int) := by omega
  have hcap : (1 : Int) + (s.size : Int) + 1 = ((s.size + 2 : Nat) : Int) := by omega
  have HT := Lib.hid hT
  have HC := Lib.hid hc
  obtain ⟨Q, hQ⟩ : ∃ Q, Q = QuotePost w s.data.toList := ⟨_, rfl⟩
  rw [← hQ]
  have HQ := Lib.hid hQ
  clear hT hc hQ
  go_enter Tryd.func59, Tryd.ntmps59
  go_wp2_with (first
    | (at_make; refine wpList_make_own _ rfl _ _ 41 rfl w.heap.size 5 i0 (.int .u8 0) 1 Tryd.underlying41 hi hz0 hz1 _ _ _ (s.size + 2) rfl rfl (by first | rfl | assumption | omega) (by rw [hz2]; omega) (by unfold maxLen; omega) (Nat.le_refl _) ?_; intro w1 hown hg; have hb1 := buf_made hown hg; clear hown hg)
    | (at_builtin; refine wpList_append_byte rfl _ _ 41 rfl w.heap.size 5 i0 Tryd.underlying41 hi hz0 hz1 hz2 _ _ _ rfl w _ _ (by assumption) rfl (by omega) ?_; intro v2 w2 hb2; clear hb1))
  have Hb2 := Lib.hid hb2
  clear hb2
  go_loopg [0, 1, 12, 13] s.size (fun n vb vs _ _ wr => ∃ (rest : ByteArray) (acc : List UInt8), vs = .string rest ∧ rest.size ≤ n ∧ acc.length ≤ 1000000 ∧ Hid (OwnBuf w.heap.size 5 vb (1 + acc.length) (byteCells (34 :: acc)) w wr) ∧ Hid (acc ++ rest.data.toList = s.data.toList))
  case atStart => exact ⟨s, [], rfl, Nat.le_refl _, by simp, Hb2.out, rfl⟩
  case round =>
    obtain ⟨rest, acc, rfl, hn, hal, hbr, hq⟩ := hrel
    clear Hb2
    have hBel : Below w.heap.size w wr := hbr.out.2.1
    have HBel := Lib.hid hBel
    by_cases h0 : 0 < rest.size
    · have h0' : (0 : Int) < (rest.size : Int) := by omega
      obtain ⟨b, t, hbt⟩ : ∃ b t, rest.data.toList = b :: t := by
        cases e : rest.data.toList with
        | nil => rw [size_eq, e] at h0; simp at h0
        | cons b t => exact ⟨b, t, rfl⟩
      have hcb := HC.out b (by rw [← hq.out, hbt]; simp)
      have hsz : t.length + 1 = rest.size := by rw [size_eq, hbt]; simp
      have hal2 : acc.length + 1 ≤ 1000000 := by
        have h := congrArg List.length hq.out
        rw [List.length_append, ← size_eq, ← size_eq] at h
        omega
      have cD := Tryd.utf8_DecodeRuneInString_ascii rest b wr (by rw [hbt]; rfl) (by omega)
      have cE := fun v hv => Tryd.strconv_appendEscapedRune T w.heap.size v (1 + acc.length) (byteCells (34 :: acc)) (b.toNat : Int) w wr hv (by omega) (Go.Proofs.printTabs_below HT.out hBel) (valid_lo _ (by omega))
      rw [escRune_clear T b hcb] at cE
      have hsub : (rest.extract 1 rest.size).data.toList = t := by rw [extract_to_end, hbt]; rfl
      have hsubs : (rest.extract 1 rest.size).size = t.length := by rw [size_eq, hsub]
      have e1 : ((b.toNat : Int) == 65533) = false := by rw [beq_eq_false_iff_ne]; omega
      have HD := Lib.hid cD
      have HE := Lib.hid cE
      have Hsz := Lib.hid (And.intro hsz hsubs)
      have Hbt := Lib.hid (And.intro hbt hsub)
      have h1s : (1 : Int) ≤ (rest.size : Int) := by omega
      clear cD cE hbt hsz hsub hsubs hBel
      go_wp2_with (first
        | (go_at_call 78; refine HD.out.mono ?_; rintro e w3 ⟨rfl, rfl⟩)
        | (go_at_call 81; refine (HE.out _ hbr.out).mono ?_; rintro e w3 ⟨v3, rfl, hb3⟩; have Hb3 := Lib.hid hb3; clear hb3))
      go_roundg t.length
      case measure => have := Hsz.out.1; omega
      case rel =>
        refine ⟨_, acc ++ [b], rfl, by rw [Hsz.out.2]; exact Nat.le_refl _, by simp; omega, ?_, ?_⟩
        · have h := Hb3.out
          rw [intCells_byte, ← byteCells_append] at h
          simpa [Nat.add_assoc, Hid] using h
        · show acc ++ [b] ++ _ = _
          rw [Hbt.out.2, ← hq.out, Hbt.out.1]
          simp
    · have h0' : ¬ (0 : Int) < (rest.size : Int) := by omega
      have hlen : acc.length + 12 ≤ 140737488355328 := by omega
      have hb0 := hbr.out
      go_wp2_with (at_builtin; refine wpList_append_byte rfl _ _ 41 rfl w.heap.size 5 i0 Tryd.underlying41 hi hz0 hz1 hz2 _ _ _ rfl w _ _ (by assumption) rfl (by omega) ?_; intro v3 w3 hb3; have Hb3 := Lib.hid hb3; clear hb3)
      have hq' := HQ.out
      subst hq'
      have hre : rest.data.toList = [] := List.eq_nil_of_length_eq_zero (by rw [← size_eq]; omega)
      have hacc := hq.out
      rw [hre, List.append_nil] at hacc
      subst hacc
      refine ⟨_, rfl, ?_⟩
      have h := Hb3.out
      simpa [Nat.add_comm, Nat.add_assoc, Nat.add_left_comm, byteCells] using h

end Go.Proofs.YtconeignnananaaDoor.Lv
