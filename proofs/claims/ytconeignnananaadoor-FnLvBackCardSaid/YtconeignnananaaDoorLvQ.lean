/- lvSimple and lvCased: the walks. -/
import Derived.Test.YtconeignnananaaDoorLvO
namespace Go.Proofs.YtconeignnananaaDoor.Lv
set_option linter.unusedVariables false
set_option linter.unusedSimpArgs false
open Go Go.Lib Go.RowKit

theorem or_letter (b : UInt8) : (97 ≤ bits BinOp.or IntKind.u8 (b.toNat : Int) 32 ∧ bits BinOp.or IntKind.u8 (b.toNat : Int) 32 ≤ 122) ↔ (65 ≤ b.toNat ∧ b.toNat ≤ 90 ∨ 97 ≤ b.toNat ∧ b.toNat ≤ 122) := by
  have h : ((List.range 256).all fun n => decide ((97 ≤ bits BinOp.or IntKind.u8 (n : Int) 32 ∧ bits BinOp.or IntKind.u8 (n : Int) 32 ≤ 122) ↔ (65 ≤ n ∧ n ≤ 90 ∨ 97 ≤ n ∧ n ≤ 122))) = true := by kernel_rfl
  exact of_decide_eq_true (List.all_eq_true.1 h b.toNat (List.mem_range.2 b.toNat_lt))

theorem simple_iff (b : UInt8) : isSimple b = true ↔ (65 ≤ b.toNat ∧ b.toNat ≤ 90 ∨ 97 ≤ b.toNat ∧ b.toNat ≤ 122 ∨ 48 ≤ b.toNat ∧ b.toNat ≤ 57 ∨ b.toNat = 43 ∨ b.toNat = 45) := by
  unfold isSimple isLetter isSign
  simp only [Bool.or_eq_true, Bool.and_eq_true, decide_eq_true_eq, beq_iff_eq]
  omega

set_option maxRecDepth 100000 in
set_option maxHeartbeats 1000000 in
theorem simple_any (s : ByteArray) (hs : s.size ≤ 1000000000) (w : World) : Calls Tryd.prog 23 #[.string s] w fun e w' => e = .returned (.bool (s.data.toList.all isSimple)) ∧ w = w' := by
  obtain ⟨Q, hQ⟩ : ∃ Q : Ending → World → Prop, Q = fun e w' => e = .returned (.bool (s.data.toList.all isSimple)) ∧ w = w' := ⟨_, rfl⟩
  rw [← hQ]
  have HQ := Lib.hid hQ
  clear hQ
  go_enter Tryd.func23, Tryd.ntmps23
  go_wp2
  go_loopg [3] s.size (fun n i wr => ∃ k : Nat, k ≤ s.size ∧ s.size - k ≤ n ∧ i = .int .i64 k ∧ wr = w ∧ Hid ((s.data.toList.take k).all isSimple = true))
  case atStart => exact ⟨0, Nat.zero_le _, by omega, rfl, rfl, show _ = true by simp⟩
  case round =>
    obtain ⟨k, hk, hn, rfl, rfl, hp⟩ := hrel
    by_cases hlt : k < s.size
    · have hlt' : (k : Int) < (s.size : Int) := by omega
      have htk : s.data.toList.take (k + 1) = s.data.toList.take k ++ [s[k]'hlt] := by
        rw [List.take_add_one, at_list s k hlt]; rfl
      have hmem : s[k]'hlt ∈ s.data.toList := List.mem_of_getElem? (at_list s k hlt)
      have hO := or_letter (s[k]'hlt)
      have hS := simple_iff (s[k]'hlt)
      have Hn := Lib.hid hn
      have HO := Lib.hid hO
      have HS := Lib.hid hS
      have HT := Lib.hid htk
      have HM := Lib.hid hmem
      clear hn hO hS htk hmem
      have yes : isSimple (s[k]'hlt) = true → (List.take (k + 1) s.data.toList).all isSimple = true := fun h => by
        rw [HT.out, List.all_append, hp.out]; simp [h]
      have no : isSimple (s[k]'hlt) = false → s.data.toList.all isSimple = false := fun h => by
        cases hh : s.data.toList.all isSimple with
        | false => rfl
        | true => have := List.all_eq_true.1 hh _ HM.out; rw [h] at this; cases this
      have Yes := Lib.hid yes
      have No := Lib.hid no
      clear yes no
      go_wp2
      all_goals first
        | (go_roundg (s.size - (k + 1))
           case measure => have := Hn.out; omega
           case rel =>
             refine ⟨k + 1, by omega, Nat.le_refl _, by push_cast; rfl, rfl, Yes.out ?_⟩
             have hO := HO.out
             rw [HS.out]
             try simp only [bne_iff_ne, ne_eq, bne_eq_false_iff_eq, decide_eq_true_eq, decide_eq_false_iff_not] at *
             omega)
        | (have hf : isSimple (s[k]'hlt) = false := by
             have hO := HO.out
             have hS := HS.out
             rw [Bool.eq_false_iff, ne_eq, hS]
             try simp only [bne_iff_ne, ne_eq, bne_eq_false_iff_eq, decide_eq_true_eq, decide_eq_false_iff_not] at *
             omega
           rw [HQ.out]
           simp only
           rw [No.out hf]
           exact ⟨rfl, by first | rfl | trivial⟩)
    · have hlt' : ¬ (k : Int) < (s.size : Int) := by omega
      have hke : s.data.toList.take k = s.data.toList := List.take_of_length_le (by rw [← size_eq]; omega)
      have hall : s.data.toList.all isSimple = true := by have := hp.out; rw [hke] at this; exact this
      rw [hall] at HQ
      go_wp2
      rw [HQ.out]
      exact ⟨rfl, rfl⟩

/-! ### lvCased: some letters in the other case -/
theorem xor_up (b : UInt8) (h : 65 ≤ b.toNat ∧ b.toNat ≤ 90 ∨ 97 ≤ b.toNat ∧ b.toNat ≤ 122) : ∃ c : UInt8, bits BinOp.xor IntKind.u8 (b.toNat : Int) 32 = (c.toNat : Int) ∧ upA c = upA b := by
  have h2 : ((List.range 256).all fun n => decide ((65 ≤ n ∧ n ≤ 90 ∨ 97 ≤ n ∧ n ≤ 122) → (bits BinOp.xor IntKind.u8 (n : Int) 32 = ((UInt8.ofNat (if n ≤ 90 then n + 32 else n - 32)).toNat : Int) ∧ upA (UInt8.ofNat (if n ≤ 90 then n + 32 else n - 32)) = upA (UInt8.ofNat n)))) = true := by kernel_rfl
  have h3 := of_decide_eq_true (List.all_eq_true.1 h2 b.toNat (List.mem_range.2 b.toNat_lt)) h
  rw [UInt8.ofNat_toNat] at h3
  exact ⟨_, h3.1, h3.2⟩

/-- The bytes of the own block g are l; of what was there nothing has turned. -/
def Own (W : World) (g : Nat) (l : List UInt8) (w : World) : Prop := Below W.heap.size W w ∧ W.heap.size ≤ g ∧ g < w.heap.size ∧ ∀ j, (h : j < l.length) → w.cell? ⟨g, j, none⟩ = some (.int .u8 (l[j]'h).toNat) ∧ w.frozen? ⟨g, j, none⟩ = false

theorem Own.set {W w : World} {g : Nat} {l : List UInt8} (h : Own W g l w) (k : Nat) (hk : k < l.length) (c : UInt8) (v : Value) (hv : v = .int .u8 c.toNat) : Own W g (l.set k c) (w.setCell ⟨g, k, none⟩ v) := by
  subst hv
  obtain ⟨h1, h2, h3, h4⟩ := h
  refine ⟨⟨h1.os, h1.tape, h1.output, by simpa using h1.size, fun i hi => (Below.heap_setCell _ _ _ _ (by show i ≠ g; omega)).trans (h1.block i hi)⟩, h2, by simpa using h3, fun j hj => ?_⟩
  have hj' : j < l.length := by simpa using hj
  refine ⟨?_, by simpa using (h4 j hj').2⟩
  by_cases e : k = j
  · subst e
    rw [List.getElem_set_self]
    exact World.cell?_setCell_same _ _ _ (h4 k hj').1
  · rw [List.getElem_set_ne e, World.cell?_setCell_other _ _ _ _ (fun e2 => e (by injection e2))]
    exact (h4 j hj').1

theorem own_start (w : World) (s : ByteArray) : Own w w.heap.size s.data.toList (bytesWorld w 5 s) := by
  refine ⟨bytesWorld_below _ _ _, Nat.le_refl _, by rw [bytesWorld_size]; omega, fun j hj => ⟨?_, ?_⟩⟩
  · rw [bytesWorld_cell w 5 s j (by rw [size_eq]; exact hj), List.getD_eq_getElem?_getD, List.getElem?_eq_getElem hj]
    rfl
  · have h := bytesWorld_at_new w 5 s
    unfold World.frozen?
    simp only [h]
    have hz : s.size ≤ (bytesCells w 5 s).size := by unfold bytesCells; simp
    have hj' : j < s.size := by rw [size_eq]; exact hj
    have h1 : ¬ (bytesCells w 5 s).size ≤ j := by omega
    simp [h1]

set_option maxRecDepth 100000 in
set_option maxHeartbeats 1000000 in
theorem cased_any (s : ByteArray) (hs : s.size ≤ 1000000) (f : Int) (hf0 : 0 ≤ f) (hf1 : f ≤ 18446744073709551615) (w : World) :
    Calls Tryd.prog 10 #[.string s, .int .u64 f] w fun e w' => (∃ l : List UInt8, e = .returned (.string ⟨l.toArray⟩) ∧ l.map upA = s.data.toList.map upA) ∧ Below w.heap.size w w' := by
  have hcv0 : ∀ (s : ByteArray) (w : World), (convert 9 41 (.string s)).run Tryd.prog w = .ok (.slice (some ⟨w.heap.size, 0, none⟩) s.size (grownCap w s.size 0 5)) (bytesWorld w 5 s) := fun s w =>
    Lib.run_convert_string_bytes w 9 41 5 s Tryd.underlying9 Tryd.underlying41 Tryd.underlying5
  obtain ⟨Q, hQ⟩ : ∃ Q : Ending → World → Prop, Q = fun e w' => (∃ l : List UInt8, e = .returned (.string ⟨l.toArray⟩) ∧ l.map upA = s.data.toList.map upA) ∧ Below w.heap.size w w' := ⟨_, rfl⟩
  rw [← hQ]
  have HQ := Lib.hid hQ
  have H0 := Lib.hid (own_start w s)
  clear hQ
  go_enter Tryd.func10, Tryd.ntmps10
  go_wp2
  go_loopg [12] s.size (fun n i wr => ∃ (k : Nat) (l : List UInt8), k ≤ s.size ∧ s.size - k ≤ n ∧ i = .int .i64 k ∧ Hid (Own w w.heap.size l wr) ∧ Hid (l.map upA = s.data.toList.map upA))
  case atStart => exact ⟨0, s.data.toList, Nat.zero_le _, by omega, rfl, H0.out, rfl⟩
  case round =>
    obtain ⟨k, l, hk, hn, rfl, ho, hm⟩ := hrel
    have hll : l.length = s.size := by rw [size_eq]; have := congrArg List.length hm.out; simpa using this
    by_cases hlt : k < s.size
    · have hlt' : (k : Int) < (s.size : Int) := by omega
      have hkl : k < l.length := by omega
      obtain ⟨c0, f0⟩ := ho.out.2.2.2 k hkl
      obtain ⟨b, hb⟩ : ∃ b, b = l[k]'hkl := ⟨_, rfl⟩
      rw [← hb] at c0
      have Hn := Lib.hid hn
      have Hb := Lib.hid hb
      have hgl : w.heap.size < wr.heap.size := ho.out.2.2.1
      clear hn hb
      go_wp2
      all_goals first
        | (go_roundg (s.size - (k + 1))
           case measure => have := Hn.out; omega
           case rel => exact ⟨k + 1, l, by omega, Nat.le_refl _, by push_cast; rfl, ho, hm⟩)
        | (go_roundg (s.size - (k + 1))
           case measure => have := Hn.out; omega
           case rel =>
             have hO := or_letter b
             have hletter : 65 ≤ b.toNat ∧ b.toNat ≤ 90 ∨ 97 ≤ b.toNat ∧ b.toNat ≤ 122 := by
               rw [← hO]
               try simp only [decide_eq_true_eq] at *
               omega
             obtain ⟨c, hc, hu⟩ := xor_up b hletter
             refine ⟨k + 1, l.set k c, by omega, Nat.le_refl _, by push_cast; rfl, Own.set ho.out k hkl c _ (by rw [hc]), ?_⟩
             show (l.set k c).map upA = _
             have e : upA b = (l.map upA)[k]'(by rw [List.length_map]; exact hkl) := by rw [List.getElem_map, Hb.out]
             rw [List.map_set, hu, e, List.set_getElem_self]
             exact hm.out)
    · have hlt' : ¬ (k : Int) < (s.size : Int) := by omega
      have hcv := (show Lies wr (.slice (some ⟨w.heap.size, 0, none⟩) s.size (grownCap w s.size 0 5)) l from .inr ⟨w.heap.size, _, by rw [hll], ho.out.2.2.1, fun j hj => by rw [show (⟨w.heap.size, 0, none⟩ : Addr).add j = ⟨w.heap.size, j, none⟩ from by unfold Addr.add; split <;> simp_all]; exact (ho.out.2.2.2 j hj).1⟩).convert (P := Tryd.prog) 41 9 5 Tryd.underlying41 Tryd.underlying5 Tryd.underlying9
      go_wp2
      rw [HQ.out]
      exact ⟨⟨l, rfl, hm.out⟩, ho.out.1⟩

end Go.Proofs.YtconeignnananaaDoor.Lv
