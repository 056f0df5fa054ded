/- The two closures of appendEscapedJSONString: each adds bytes to the buffer that it captures. -/
import Derived.Test.YtngddccmkhghiaaDoorProg
import Derived.Test.YtngddccmkhghiaaDoorEsc
import Derived.WalkKit
import Derived.WalkSpells
import Derived.Lib.AppendStr
import Derived.Lib.Hide
namespace Go.Proofs.YtngddccmkhghiaaDoor.Esc
open Go Go.Lib Go.RowKit

theorem info5 : (Tryd.prog.info? 5).map (fun i => (i.zero, i.size, i.bytes)) = some (some (.int .u8 0), 1, 1) := by kernel_rfl

/-- Bytes as cells. -/
def u8s (l : List UInt8) : List Value := l.map fun b => .int .u8 b.toNat

/-- Block g is a variable that holds a slice of the call's own, behind g, of just these bytes; below g all is as it was in W. -/
def Buf (W w : World) (g : Nat) (l : List UInt8) : Prop :=
  ∃ v, w.cell? ⟨g, 0, none⟩ = some v ∧ w.frozen? ⟨g, 0, none⟩ = false ∧ w.ownsRow (g + 1) 5 1 v l.length (u8s l) ∧ g < w.heap.size ∧ Below g W w

theorem u8s_one (l : List UInt8) : ∀ u ∈ u8s l, u.oneCell' = true := by
  intro u hu
  simp only [u8s, List.mem_map] at hu
  obtain ⟨b, _, rfl⟩ := hu
  rfl

theorem own_below_g {w1 : World} {g : Nat} {v u : Value} {n : Nat} {xs : List Value} (h : w1.ownsRow (g + 1) 5 1 v n xs) : (w1.setCell ⟨g, 0, none⟩ u).ownsRow (g + 1) 5 1 v n xs :=
  ownsRow_setCell_below h (by simp) u

theorem own_shape {w1 : World} {base : Nat} {e : TypeId} {size : Nat} {v : Value} {n : Nat} {xs : List Value} (h : w1.ownsRow base e size v n xs) : ∃ A c, v = .slice A n c := by
  rcases h.2 with ⟨rfl, rfl⟩ | ⟨g, cap, cur, rfl, _⟩
  · exact ⟨none, 0, rfl⟩
  · exact ⟨_, _, rfl⟩

theorem own_above {w1 : World} {base : Nat} {e : TypeId} {size : Nat} {v : Value} {n : Nat} {xs : List Value} (h : w1.ownsRow base e size v n xs) (k : Nat) (hk : v.ownBlock = some k) : base ≤ k := (h.lt k hk).1

def CharPost (W : World) (g : Nat) (l : List UInt8) (e : Ending) (w' : World) : Prop :=
  e = .returned (.tuple #[]) ∧ Buf W w' g l

theorem buf_set {W w w1 : World} {g : Nat} {u : Value} {l : List UInt8} {c0 : Value} (hc : w.cell? ⟨g, 0, none⟩ = some c0) (hf : w.frozen? ⟨g, 0, none⟩ = false) (hg : g < w.heap.size) (hW : Below g W w)
    (hb : Below (g + 1) w w1) (hown : w1.ownsRow (g + 1) 5 1 u l.length (u8s l)) : Buf W (w1.setCell ⟨g, 0, none⟩ u) g l := by
  have hc1 : w1.cell? ⟨g, 0, none⟩ = some c0 := (hb.cell (p := ⟨g, 0, none⟩) (by simp)).trans hc
  have hf1 : w1.frozen? ⟨g, 0, none⟩ = false := (hb.frozen (p := ⟨g, 0, none⟩) (by simp)).trans hf
  exact ⟨u, World.cell?_setCell_same _ _ _ hc1, by simpa using hf1, own_below_g hown, by have := hb.size; simp; omega, hW.trans ((hb.mono (by omega)).setCell (by simp) _)⟩

theorem buf_keep {W w w1 : World} {g : Nat} {l : List UInt8} (h : Buf W w g l) (hb : Below w.heap.size w w1) : Buf W w1 g l := by
  obtain ⟨v, hc, hf, hown, hg, hW⟩ := h
  refine ⟨v, (hb.cell (p := ⟨g, 0, none⟩) hg).trans hc, (hb.frozen (p := ⟨g, 0, none⟩) hg).trans hf, ?_, by have := hb.size; omega, hW.trans (hb.mono (by omega))⟩
  refine ⟨hown.1, ?_⟩
  rcases hown.2 with h2 | ⟨k, cap, cur, hv, hk, hh, r⟩
  · exact .inl h2
  · refine .inr ⟨k, cap, cur, hv, hk, ?_, r⟩
    rw [hb.block k (Array.getElem?_eq_some_iff.1 hh).1]
    exact hh

theorem buf_new (W : World) : Buf W (W.alloc (.cells #[.slice none 0 0] 47)) W.heap.size [] :=
  ⟨.slice none 0 0, by simp, by simp, World.ownsRow_nil _ _ _ _, by simp, (Below.refl _ _).alloc (Nat.le_refl _) _⟩

set_option maxHeartbeats 1000000 in
theorem char_any (b : Int) (h0 : 0 ≤ b) (h1 : b < 256) (W : World) (g : Nat) (l : List UInt8) (w : World) (hB : Buf W w g l) (hl : l.length + 1 ≤ 1000000000) :
    Calls Tryd.prog 26 #[.int .u8 b, .pointer (some ⟨g, 0, none⟩)] w (CharPost W g (l ++ [UInt8.ofNat b.toNat])) := by
  obtain ⟨u, rfl⟩ : ∃ u : UInt8, b = u.toNat := ⟨UInt8.ofNat b.toNat, by simp; omega⟩
  have hu : UInt8.ofNat ((u.toNat : Int)).toNat = u := by simp
  rw [hu]
  clear hu h0 h1
  obtain ⟨v, hc, hf, hown, hg, hW⟩ := hB
  obtain ⟨i0, hi, hz0, hz1, hz2⟩ := info_parts info5
  go_enter Tryd.func26, Tryd.ntmps26
  go_wp2_with (first
    | (at_builtin
       refine wpList_append_own _ rfl _ _ 47 rfl (g + 1) 5 i0 (.int .u8 0) 1 1 Tryd.underlying47 hi hz0 hz1 hz2 rfl (by decide) v l.length (u8s l) rfl (hown.alloc _) ⟨w.heap.size, 0, none⟩ 1 1 [.int .u8 u.toNat] rfl rfl (cell_one_new _ _ _) (by simp [Value.oneCell']) (by simp only [maxLen]; omega) (by omega) (by simp; omega) ?_
       intro v1 w1 hown1 hg1 _
       have hb1 : Below (g + 1) w w1 := ((Below.refl (g + 1) w).alloc hg _).grown hg1 (by simp; omega) (fun k hk => own_above hown k hk)
       obtain ⟨A1, c1, rfl⟩ := own_shape hown1
       have hc1 : w1.cell? ⟨g, 0, none⟩ = some v := (hb1.cell (p := ⟨g, 0, none⟩) (by simp)).trans hc
       have hf1 : w1.frozen? ⟨g, 0, none⟩ = false := (hb1.frozen (p := ⟨g, 0, none⟩) (by simp)).trans hf
       have fin := buf_set (l := l ++ [u]) hc hf hg hW hb1 (by simpa [u8s] using hown1)
       have Fin := Lib.hid fin
       clear fin hown1 hown hg1 hb1))
  go_end0
  exact ⟨rfl, Fin.out⟩

set_option maxHeartbeats 1000000 in
theorem str_any (s : ByteArray) (W : World) (g : Nat) (l : List UInt8) (w : World) (hB : Buf W w g l) (hl : l.length + s.size ≤ 1000000000) :
    Calls Tryd.prog 27 #[.string s, .pointer (some ⟨g, 0, none⟩)] w (CharPost W g (l ++ s.data.toList)) := by
  obtain ⟨v, hc, hf, hown, hg, hW⟩ := hB
  obtain ⟨i0, hi, hz0, hz1, hz2⟩ := info_parts info5
  go_enter Tryd.func27, Tryd.ntmps27
  go_wp2_with (first
    | (at_builtin
       refine wpList_append_own_string _ rfl _ _ 47 9 rfl (g + 1) 5 i0 Tryd.underlying47 Tryd.underlying9 hi hz0 hz1 hz2 v l.length (u8s l) rfl hown s rfl (by simp only [maxLen]; omega) (by omega) (by omega) ?_
       intro v1 w1 hown1 hg1 _
       have hb1 : Below (g + 1) w w1 := (Below.refl (g + 1) w).grown hg1 (by omega) (fun k hk => own_above hown k hk)
       obtain ⟨A1, c1, rfl⟩ := own_shape hown1
       have hc1 : w1.cell? ⟨g, 0, none⟩ = some v := (hb1.cell (p := ⟨g, 0, none⟩) (by simp)).trans hc
       have hf1 : w1.frozen? ⟨g, 0, none⟩ = false := (hb1.frozen (p := ⟨g, 0, none⟩) (by simp)).trans hf
       have fin := buf_set (l := l ++ s.data.toList) hc hf hg hW hb1 (by simpa [u8s, strCells, ← size_eq] using hown1)
       have Fin := Lib.hid fin
       clear fin hown1 hown hg1 hb1))
  go_end0
  exact ⟨rfl, Fin.out⟩

end Go.Proofs.YtngddccmkhghiaaDoor.Esc
