/- The methods of a LevelVar: the walks. -/
import Derived.Test.YtconeignnananaaDoorVvMem
namespace Go.Proofs.YtconeignnananaaDoor.Lv
open Go Go.Lib Go.RowKit

section
variable (c : Nat) (n : Int) (w : World)
set_option maxRecDepth 100000 in
set_option maxHeartbeats 400000 in
/-- (*LevelVar).Level. -/
theorem varLevel_any (hn : i64B n) (h : w.cell? ⟨c, 0, none⟩ = some (.int .i64 n)) : Calls Tryd.prog 34 #[.pointer (some ⟨c, 0, none⟩)] w fun e w' => e = .returned (.int .i64 n) ∧ w = w' := by
  obtain ⟨h0, h1⟩ := hn
  go_enter Tryd.func34, Tryd.ntmps34
  go_wp2
  go_ret
  exact ⟨rfl, rfl⟩
set_option maxRecDepth 100000 in
set_option maxHeartbeats 400000 in
/-- (*zzInt64).Store. -/
theorem store_any (old : Value) (hn : i64B n) (h : w.cell? ⟨c, 0, none⟩ = some old) (hf : w.frozen? ⟨c, 0, none⟩ = false) : Calls Tryd.prog 46 #[.pointer (some ⟨c, 0, none⟩), .int .i64 n] w fun e w' => e = .returned (.tuple #[]) ∧ w' = w.setCell ⟨c, 0, none⟩ (.int .i64 n) := by
  obtain ⟨h0, h1⟩ := hn
  go_enter Tryd.func46, Tryd.ntmps46
  go_wp2
  refine bodyPost_end (v := .tuple #[]) (by simp [results, Tryd.results46, go_sem]) rfl ?_
  exact ⟨rfl, rfl⟩
set_option maxRecDepth 100000 in
set_option maxHeartbeats 400000 in
/-- (*LevelVar).Set. -/
theorem varSet_any (old : Value) (hn : i64B n) (h : w.cell? ⟨c, 0, none⟩ = some old) (hf : w.frozen? ⟨c, 0, none⟩ = false) : Calls Tryd.prog 33 #[.pointer (some ⟨c, 0, none⟩), .int .i64 n] w fun e w' => e = .returned (.tuple #[]) ∧ w' = w.setCell ⟨c, 0, none⟩ (.int .i64 n) := by
  have HN := Lib.hid hn
  obtain ⟨h0, h1⟩ := hn
  go_enter Tryd.func33, Tryd.ntmps33
  go_wp2_with (go_at_call 46; (with_reducible refine (store_any c n _ old HN.out h hf).mono ?_); rintro e w1 ⟨rfl, rfl⟩)
  refine bodyPost_end (v := .tuple #[]) (by simp [results, Tryd.results33, go_sem]) rfl ?_
  exact ⟨rfl, rfl⟩
set_option maxRecDepth 100000 in
set_option maxHeartbeats 1000000 in
/-- (*LevelVar).String. -/
theorem varString_any (hn : i64B n) (h : w.cell? ⟨c, 0, none⟩ = some (.int .i64 n)) (hp : Pow w) : Calls Tryd.prog 35 #[.pointer (some ⟨c, 0, none⟩)] w fun e w' => e = .returned (.string (varName n)) ∧ Below w.heap.size w w' := by
  have hsz := lvName_size n hn.1 hn.2
  have HP := Lib.hid hp
  have HN := Lib.hid hn
  obtain ⟨N, hN⟩ : ∃ N, N = lvName n := ⟨_, rfl⟩
  have HE := Lib.hid hN
  unfold varName
  rw [← hN] at hsz ⊢
  clear hp hn hN
  go_enter Tryd.func35, Tryd.ntmps35
  go_wp2_with (first
    | (go_at_call 34; (with_reducible refine (varLevel_any c n _ HN.out h).mono ?_); rintro e w1 ⟨rfl, rfl⟩)
    | (go_at_call 27; (with_reducible refine (string_any n HN.out.1 HN.out.2 _ HP.out).mono ?_); rintro e w1 ⟨rfl, hb1⟩; rw [← HE.out]; have HB1 := Lib.hid hb1; clear hb1))
  go_ret
  exact ⟨rfl, HB1.out⟩
set_option maxRecDepth 100000 in
set_option maxHeartbeats 1000000 in
/-- (*LevelVar).AppendText onto nothing. -/
theorem varAppend_nil (hn : i64B n) (h : w.cell? ⟨c, 0, none⟩ = some (.int .i64 n)) (hp : Pow w) : Calls Tryd.prog 37 #[.pointer (some ⟨c, 0, none⟩), .slice none 0 0] w (BytesPost w (lvName n).data.toList) := by
  have HP := Lib.hid hp
  have HN := Lib.hid hn
  clear hp hn
  unfold BytesPost
  go_enter Tryd.func37, Tryd.ntmps37
  go_wp2_with (first
    | (go_at_call 34; (with_reducible refine (varLevel_any c n _ HN.out h).mono ?_); rintro e w1 ⟨rfl, rfl⟩)
    | (go_at_call 29; (with_reducible refine (appendText_nil n HN.out.1 HN.out.2 _ HP.out).mono ?_); rintro e w1 ⟨v1, rfl, hl1, hb1⟩; have HL1 := Lib.hid (And.intro hl1 hb1); clear hl1 hb1))
  go_ret2
  exact ⟨v1, rfl, HL1.out.1, HL1.out.2⟩
set_option maxRecDepth 100000 in
set_option maxHeartbeats 1000000 in
/-- (*LevelVar).MarshalText. -/
theorem varMarshal_any (hn : i64B n) (h : w.cell? ⟨c, 0, none⟩ = some (.int .i64 n)) (hp : Pow w) : Calls Tryd.prog 36 #[.pointer (some ⟨c, 0, none⟩)] w (BytesPost w (lvName n).data.toList) := by
  have HC := Lib.hid (varAppend_nil c n w hn h hp)
  clear hp hn h
  unfold BytesPost at HC ⊢
  go_enter Tryd.func36, Tryd.ntmps36
  go_wp2_with (first
    | (go_at_call 37; (with_reducible refine HC.out.mono ?_); rintro e w1 ⟨v1, rfl, hl1, hb1⟩; have HL1 := Lib.hid (And.intro hl1 hb1); clear hl1 hb1))
  go_ret2
  exact ⟨v1, rfl, HL1.out.1, HL1.out.2⟩
end

set_option maxRecDepth 100000 in
set_option maxHeartbeats 1000000 in
/-- (*LevelVar).AppendText onto what a string was converted to. -/
theorem varAppend_conv (c : Nat) (n : Int) (s : ByteArray) (w0 : World) (hn : i64B n) (hs : s.size ≤ 1000000000) (h : w0.cell? ⟨c, 0, none⟩ = some (.int .i64 n)) (hp : Pow w0) :
    Calls Tryd.prog 37 #[.pointer (some ⟨c, 0, none⟩), .slice (some ⟨w0.heap.size, 0, none⟩) s.size (grownCap w0 s.size 0 5)] (bytesWorld w0 5 s) (BytesPost w0 (s ++ lvName n).data.toList) := by
  have hl : c < w0.heap.size := World.block_lt_of_cell? w0 _ h
  have h1 : (bytesWorld w0 5 s).cell? ⟨c, 0, none⟩ = some (.int .i64 n) := ((bytesWorld_below w0 5 s).cell hl).trans h
  have HC := Lib.hid (appendText_conv n hn.1 hn.2 s hs w0 hp)
  have HN := Lib.hid hn
  unfold BytesPost at HC ⊢
  generalize bytesWorld w0 5 s = w at h1 HC ⊢
  generalize w0.heap.size = g at HC ⊢
  generalize grownCap w0 s.size 0 5 = cp at HC ⊢
  clear h hp hn hl
  go_enter Tryd.func37, Tryd.ntmps37
  go_wp2_with (first
    | (go_at_call 34; (with_reducible refine (varLevel_any c n _ HN.out h1).mono ?_); rintro e w1 ⟨rfl, rfl⟩)
    | (go_at_call 29; (with_reducible refine HC.out.mono ?_); rintro e w1 ⟨v1, rfl, hl1, hb1⟩; have HL1 := Lib.hid (And.intro hl1 hb1); clear hl1 hb1))
  go_ret2
  exact ⟨v1, rfl, HL1.out.1, HL1.out.2⟩

/-- What UnmarshalText leaves. -/
def UnPost (l : List UInt8) (c : Nat) (n : Int) (w : World) (e : Ending) (w' : World) : Prop :=
  (∃ b, e = .returned b ∧ (b = .nilIface ∧ (levelOf l).isSome = true ∨ (∃ t u, b = .iface t u) ∧ (levelOf l).isSome = false)) ∧ But c w w' ∧ w'.cell? ⟨c, 0, none⟩ = some (.int .i64 ((levelOf l).getD n)) ∧ w'.frozen? ⟨c, 0, none⟩ = false
set_option maxRecDepth 100000 in
set_option maxHeartbeats 1000000 in
/-- (*LevelVar).UnmarshalText. -/
theorem varUnmarshal_any (v : Value) (l : List UInt8) (c : Nat) (n : Int) (w : World) (hn : i64B n) (hv : Lies w v l) (hs : l.length ≤ 1000000) (ha : ∀ b ∈ l, b.toNat < 128) (h : w.cell? ⟨c, 0, none⟩ = some (.int .i64 n)) (hf : w.frozen? ⟨c, 0, none⟩ = false) (hE : Env w) :
    Calls Tryd.prog 38 #[.pointer (some ⟨c, 0, none⟩), v] w (UnPost l c n w) := by
  have hcl : c < w.heap.size := World.block_lt_of_cell? w _ h
  have hB0 : Below w.heap.size w (w.alloc (.cells #[.int .i64 0] 42)) := (Below.refl _ _).alloc (Nat.le_refl _) _
  have cU := unmarshal_any v l w.heap.size 0 (w.alloc (.cells #[.int .i64 0] 42)) (hv.keep hB0) hs ha (by simp) (by simp) (hE.on hB0)
  have hLB := fun x (e : levelOf l = some x) => level_bound e
  have h1 : (w.alloc (.cells #[.int .i64 0] 42)).cell? ⟨c, 0, none⟩ = some (.int .i64 n) := (hB0.cell hcl).trans h
  have f1 : (w.alloc (.cells #[.int .i64 0] 42)).frozen? ⟨c, 0, none⟩ = false := (hB0.frozen hcl).trans hf
  have hs1 : (w.alloc (.cells #[.int .i64 0] 42)).heap.size = w.heap.size + 1 := by simp
  have HB0 := Lib.hid hB0
  obtain ⟨Q, hQ⟩ : ∃ Q, Q = UnPost l c n w := ⟨_, rfl⟩
  rw [← hQ]
  have HQ := Lib.hid hQ
  unfold ReadPost at cU
  obtain ⟨L, hL⟩ : ∃ L, L = levelOf l := ⟨_, rfl⟩
  rw [← hL] at cU hLB
  have HL := Lib.hid hL
  clear hQ hv ha hE h hf hB0 hL
  cases L with
  | none =>
    simp only at cU
    have CU := Lib.hid cU
    have H1 := Lib.hid (And.intro h1 (And.intro f1 hs1))
    clear cU hLB h1 f1 hs1
    go_enter Tryd.func38, Tryd.ntmps38
    go_wp2_with (first
      | (go_at_call 25; (with_reducible refine CU.out.mono ?_); rintro e w1 ⟨t, x, rfl, hb⟩; have HB := Lib.hid hb; clear hb))
    rw [HQ.out]
    have hb : Below w.heap.size w w1 := HB0.out.trans (HB.out.mono (by have := H1.out.2.2; omega))
    unfold UnPost
    rw [← HL.out]
    have hl1 : c < (w.alloc (.cells #[.int .i64 0] 42)).heap.size := by have := H1.out.2.2; omega
    exact ⟨⟨_, rfl, .inr ⟨⟨t, x, rfl⟩, rfl⟩⟩, But.of_below hb, (HB.out.cell hl1).trans H1.out.1, (HB.out.frozen hl1).trans H1.out.2.1⟩
  | some x =>
    simp only at cU
    have hx := hLB x rfl
    have CU := Lib.hid cU
    have H1 := Lib.hid (And.intro h1 (And.intro f1 hs1))
    have HX := Lib.hid hx
    have hcw : c ≠ w.heap.size := by omega
    have hl1 : c < (w.alloc (.cells #[.int .i64 0] 42)).heap.size := by omega
    have HL1 := Lib.hid hl1
    have hwl : w.heap.size < (w.alloc (.cells #[.int .i64 0] 42)).heap.size := by omega
    have HWL := Lib.hid hwl
    clear cU hLB h1 f1 hs1 hx hl1 hwl
    go_enter Tryd.func38, Tryd.ntmps38
    go_wp2_with (first
      | (go_at_call 25; (with_reducible refine CU.out.mono ?_); rintro e w1 ⟨rfl, hc1, hb⟩; have HB := Lib.hid hb; have d1 := (hb.cell HL1.out hcw).trans H1.out.1; have g1 := (hb.frozen HL1.out hcw).trans H1.out.2.1; clear hb)
      | (go_at_call 33; (with_reducible refine (varSet_any c x _ _ HX.out d1 g1).mono ?_); rintro e w2 ⟨rfl, rfl⟩))
    rw [HQ.out]
    unfold UnPost
    rw [← HL.out]
    have hbb : Below w.heap.size w w1 := by
      refine HB0.out.trans ⟨HB.out.os, HB.out.tape, HB.out.output, HB.out.size, fun i hi => HB.out.block i (by have := H1.out.2.2; omega) (fun e => by injection e with e; omega)⟩
    exact ⟨⟨_, rfl, .inl ⟨rfl, rfl⟩⟩, (But.of_below hbb).set 0 _, World.cell?_setCell_same _ _ _ d1, by rw [World.frozen?_setCell]; exact g1⟩

theorem varSet_but (c : Nat) (n : Int) (w : World) (old : Value) (hn : i64B n) (h : w.cell? ⟨c, 0, none⟩ = some old) (hf : w.frozen? ⟨c, 0, none⟩ = false) : Calls Tryd.prog 33 #[.pointer (some ⟨c, 0, none⟩), .int .i64 n] w fun e w' => e = .returned (.tuple #[]) ∧ But c w w' ∧ w'.cell? ⟨c, 0, none⟩ = some (.int .i64 n) ∧ w'.frozen? ⟨c, 0, none⟩ = false :=
  (varSet_any c n w old hn h hf).mono fun e w' hp => by
    obtain ⟨rfl, rfl⟩ := hp
    exact ⟨rfl, (But.refl _ _).set 0 _, World.cell?_setCell_same _ _ _ h, by rw [World.frozen?_setCell]; exact hf⟩

section
variable (v : Value) (l : List UInt8) (c : Nat) (n : Int) (w : World) (hn : i64B n) (hv : Lies w v l) (hs : l.length ≤ 1000000) (ha : ∀ b ∈ l, b.toNat < 128) (h : w.cell? ⟨c, 0, none⟩ = some (.int .i64 n)) (hf : w.frozen? ⟨c, 0, none⟩ = false) (hE : Env w)
include hn hv hs ha h hf hE
theorem varUnmarshal_no (hL : levelOf l = none) : Calls Tryd.prog 38 #[.pointer (some ⟨c, 0, none⟩), v] w fun e w' => (∃ t u, e = .returned (.iface t u)) ∧ But c w w' ∧ w'.cell? ⟨c, 0, none⟩ = some (.int .i64 n) ∧ w'.frozen? ⟨c, 0, none⟩ = false :=
  (varUnmarshal_any v l c n w hn hv hs ha h hf hE).mono fun e w' hp => by
    obtain ⟨⟨b, rfl, hb⟩, h1, h2, h3⟩ := hp
    rw [hL] at hb h2
    rcases hb with ⟨rfl, hx⟩ | ⟨⟨t, u, rfl⟩, _⟩
    · exact absurd hx (by simp)
    · exact ⟨⟨t, u, rfl⟩, h1, h2, h3⟩
theorem varUnmarshal_yes (x : Int) (hL : levelOf l = some x) : Calls Tryd.prog 38 #[.pointer (some ⟨c, 0, none⟩), v] w fun e w' => e = .returned .nilIface ∧ But c w w' ∧ w'.cell? ⟨c, 0, none⟩ = some (.int .i64 x) ∧ w'.frozen? ⟨c, 0, none⟩ = false :=
  (varUnmarshal_any v l c n w hn hv hs ha h hf hE).mono fun e w' hp => by
    obtain ⟨⟨b, rfl, hb⟩, h1, h2, h3⟩ := hp
    rw [hL] at hb h2
    rcases hb with ⟨rfl, _⟩ | ⟨_, hx⟩
    · exact ⟨rfl, h1, h2, h3⟩
    · exact absurd hx (by simp)
end

end Go.Proofs.YtconeignnananaaDoor.Lv
