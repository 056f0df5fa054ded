/- The reader of levels: (*Level).parse whole, UnmarshalText, the thin package. -/
import Derived.Test.YtconeignnananaaDoorLvI
namespace Go.Proofs.YtconeignnananaaDoor.Lv
set_option linter.unusedVariables false
set_option linter.unusedSimpArgs false
open Go Go.Lib Go.RowKit

set_option maxRecDepth 100000 in
set_option maxHeartbeats 1000000 in
theorem read_name2 (s : ByteArray) (b : Nat) (old : Int) (hs : s.size ≤ 1000000) (ha : ∀ b ∈ s.data.toList, b.toNat < 128) (w : World) (hc : w.cell? ⟨b, 0, none⟩ = some (.int .i64 old)) (hf : w.frozen? ⟨b, 0, none⟩ = false) (hE : Env w)
    (k : Nat) (hk : k ≤ s.size) (hsg : signIdx s = k) (hv : baseUp ((s.data.toList.take k).map upA) = none) (n : Int) (hn : numOf (s.data.toList.drop k) = some n) :
    Calls Tryd.prog 40 #[.pointer (some ⟨b, 0, none⟩), .string s] w fun e w' => (∃ t x, e = .returned (.iface t x)) ∧ Below w.heap.size w w' := by
  have hmf : ∀ (fn : Fn) (first cap : Array Value) (w : World), (Instr.makeFunc fn first cap).run Tryd.prog w = .ok (.func fn first cap) w := fun _ _ _ _ => rfl
  have hbw : b < w.heap.size := World.block_lt_of_cell? _ _ hc
  have cS := fun wx => zzSign_any s (by omega) wx
  rw [hsg] at cS
  have cU := fun wx => upper_any (s.extract 0 k) wx (by rw [size_eq, ext_take, List.length_take, ← size_eq]; omega) (fun b hb => ha b (List.mem_of_mem_take (by rw [ext_take] at hb; exact hb)))
  rw [ext_take] at cU
  have cA := fun wx => atoi_any (s.extract k s.size) (by rw [size_eq, ext_drop, List.length_drop, ← size_eq]; omega) w wx hE
  unfold AtoiPost at cA
  rw [ext_drop, hn] at cA
  simp only at cA
  obtain ⟨q1, q2, q3, q4⟩ := noName hv
  generalize (⟨((s.data.toList.take k).map upA).toArray⟩ : ByteArray) = U at cU q1 q2 q3 q4
  have CA := Lib.hid cA
  have CS := Lib.hid cS
  have CU := Lib.hid cU
  have HE := Lib.hid hE
  have hks : (k : Int) ≤ (s.size : Int) := by omega
  have hk0 : (0 : Int) ≤ (k : Int) := by omega
  obtain ⟨Q, hQ⟩ : ∃ Q : Ending → World → Prop, Q = fun e w' => (∃ t x, e = .returned (.iface t x)) ∧ Below w.heap.size w w' := ⟨_, rfl⟩
  rw [← hQ]
  have HQ := Lib.hid hQ
  clear cS ha hv cA hE hn hQ cU
  go_enter_defers Tryd.func40, Tryd.ntmps40
  go_wp2_with (first
      | (go_at_call 55; refine (CS.out _).mono ?_; rintro e w1 ⟨rfl, rfl⟩)
      | (go_at_call 56; refine (CA.out _ (((Below.refl _ _).alloc (Nat.le_refl _) _).alloc (by simp) _)).mono ?_; rintro e w1 ⟨hb1, rfl⟩; have HX := Lib.hid ((Bx.start s hc hf).keep hbw hb1); obtain ⟨kb, fb, ks, ke, fe, ze, ne, HB⟩ := HX.out; clear hb1)
      | (go_at_call 57; refine (CU.out _).mono ?_; rintro e w2 ⟨rfl, hb2⟩; have HX2 := Lib.hid ((HX.out.err hbw .nilIface).keep hbw hb2); obtain ⟨kb2, fb2, ks2, ke2, fe2, ze2, ne2, HB2⟩ := HX2.out; clear hb2)
      | (go_at_call 53; refine (new_any _ _).mono ?_; rintro e w3 ⟨rfl, rfl⟩; have zz : w.heap.size + 1 ≠ w2.heap.size := (by omega)))
  have hXF := (HX2.out.err hbw (.iface 90 (.pointer (some ⟨w2.heap.size, 0, none⟩)))).keep hbw ((Below.refl _ _).alloc (Nat.le_refl _) (.cells #[.string ⟨#[117, 110, 107, 110, 111, 119, 110, 32, 110, 97, 109, 101]⟩] 92 (0, 0)))
  have hF := fault_string (W := (w2.setCell ⟨w.heap.size + 1, 0, none⟩ (.iface 90 (.pointer (some ⟨w2.heap.size, 0, none⟩)))).alloc (.cells #[.string ⟨#[117, 110, 107, 110, 111, 119, 110, 32, 110, 97, 109, 101]⟩] 92 (0, 0)))
    (a := ⟨w2.heap.size, 0, none⟩) (t := ⟨#[117, 110, 107, 110, 111, 119, 110, 32, 110, 97, 109, 101]⟩) (by decide) (by
      exact (World.cell?_alloc_at _ _ _ 0 (by simp)).trans rfl)
  refine leaves_cons (f := 52) (args := #[.pointer (some ⟨w.heap.size + 1, 0, none⟩), .pointer (some ⟨w.heap.size, 0, none⟩)]) (by simp) (by simp [go_sem]) ?_
  refine (bad_end hs hXF HE.out hF).mono ?_
  rintro e u' w'' ⟨rfl, rfl, p, hp, hb⟩
  simp only [settle, Leaves]
  refine ⟨.iface 90 (.pointer p), ?_, ?_⟩
  · simp [results, Tryd.results40, go_sem, hp]
  · rw [HQ.out]
    exact ⟨⟨_, _, rfl⟩, hb⟩

/-- (*Level).parse. -/
theorem read_any (s : ByteArray) (b : Nat) (old : Int) (hs : s.size ≤ 1000000) (ha : ∀ b ∈ s.data.toList, b.toNat < 128) (w : World) (hc : w.cell? ⟨b, 0, none⟩ = some (.int .i64 old)) (hf : w.frozen? ⟨b, 0, none⟩ = false) (hE : Env w) :
    Calls Tryd.prog 40 #[.pointer (some ⟨b, 0, none⟩), .string s] w (ReadPost s.data.toList b w) := by
  unfold ReadPost levelOf
  have hle := signAt_le s.data.toList
  by_cases hlt : signAt s.data.toList < s.size
  · have hsg : signIdx s = (signAt s.data.toList : Int) := by unfold signIdx; rw [if_pos hlt]
    have hne : ¬ signAt s.data.toList = s.data.toList.length := by rw [← size_eq]; omega
    cases hb : baseOf (s.data.toList.take (signAt s.data.toList)) with
    | none =>
      simp only
      cases hn : numOf (s.data.toList.drop (signAt s.data.toList)) with
      | none => exact (read_num s b old hs w hc hf hE _ (by omega) hsg hn).mono fun e w' h => by obtain ⟨⟨t, x, rfl⟩, hb⟩ := h; exact ⟨t, x, rfl, hb⟩
      | some n => exact (read_name2 s b old hs ha w hc hf hE _ (by omega) hsg hb n hn).mono fun e w' h => by obtain ⟨⟨t, x, rfl⟩, hb⟩ := h; exact ⟨t, x, rfl, hb⟩
    | some v =>
      simp only
      rw [if_neg hne]
      cases hn : numOf (s.data.toList.drop (signAt s.data.toList)) with
      | none => exact (read_num s b old hs w hc hf hE _ (by omega) hsg hn).mono fun e w' h => by obtain ⟨⟨t, x, rfl⟩, hb⟩ := h; exact ⟨t, x, rfl, hb⟩
      | some n => exact (read_sign s b old hs ha w hc hf hE _ (by omega) hsg v hb n hn).mono fun e w' h => by simpa [IntKind.wrap_i64, wrap64] using h
  · have he : signAt s.data.toList = s.data.toList.length := by rw [← size_eq]; rw [← size_eq] at hle; omega
    have hsg : signIdx s = -1 := by unfold signIdx; rw [if_neg hlt]
    rw [he, List.take_length]
    cases hb : baseOf s.data.toList with
    | none => exact (read_name s b old hs ha w hc hf hE hsg hb).mono fun e w' h => by obtain ⟨⟨t, x, rfl⟩, hb⟩ := h; exact ⟨t, x, rfl, hb⟩
    | some v =>
      simp only [if_true]
      exact read_bare s b old hs ha w hc hf hE hsg v hb

/-- impl.LevelParse and the like: the level, and whether there was no error. -/
def ParsedPost' (l : List UInt8) (was : Int) (w : World) (e : Ending) (w' : World) : Prop :=
  e = .returned (.tuple #[.int .i64 ((levelOf l).getD was), .bool (levelOf l).isSome]) ∧ Below w.heap.size w w'

end Go.Proofs.YtconeignnananaaDoor.Lv
