/- The values of package slog that Vals stand for (impl.valueOf): groups, values that give others, and all kinds. -/
import Derived.Test.YtdeomgfapffidaaGreatDoorOfC
namespace Go.Proofs.YtdeomgfapffidaaGreatDoor.Va
set_option linter.unusedVariables false
set_option linter.unusedSimpArgs false
open Go Go.RowKit

/-- slog.GroupValue. -/
theorem groupValue_any {P : Nat → Prop} (l : SAttrs) (w : World) (A : Option Addr) (len cap : Nat) (hl : RSS P w l A len) (hlen : len ≤ 300000) (hP : ∀ b, w.heap.size ≤ b → P b) :
    Calls Tryz.prog 90 #[.slice A len cap] w (GroupPost P l.full w) := by
  by_cases he : l.empties = 0
  · exact groupValue_none l w A len cap hl hlen he
  · exact groupValue_some l w A len cap hl hlen (by omega) hP

theorem rsv_group {P : Nat → Prop} {w : World} {l : SAttrs} {x y : Value} (h : RSV P w (.group l) x y) : ∃ (A : Option Addr) (len cap : Nat), x = .int .u64 len ∧ y = .iface 199 (.slice A len cap) := by
  unfold RSV at h
  obtain ⟨A, len, cap, e1, e2, _⟩ := h
  exact ⟨A, len, cap, e1, e2⟩

theorem slen_attrsOf (c : Option Addr) : ∀ l : GAttrs, (attrsOf c l).len = l.len
  | .nil => by rw [attrsOf_nil]; rfl
  | .cons k v r => by rw [attrsOf_cons]; simp only [SAttrs.len, GAttrs.len, slen_attrsOf c r]

section
variable (c : Option Addr) (n : Int) (s : ByteArray) (t : GTime) (w : World) (A : Option Addr) (len cap : Nat)

set_option maxRecDepth 100000 in
set_option maxHeartbeats 400000 in
theorem of_group (l : GAttrs) (hl : RS w l A len) (hsz : l.size ≤ 300000) (hwf : l.wf) (ih : ValL c l) : Calls Tryz.prog 45 #[.agg #[.int .i64 8, .int .u64 n, .string s, .int .i64 t.sec, .int .i64 t.nsec, .int .i64 t.off, .slice A len cap], .pointer c] w (ValPost (.group (attrsOf c l).full) w) := by
  unfold ValPost
  have hll := slen_attrsOf c l
  have hls := len_le_size l
  have Hl := Lib.hid hl
  have Hs := Lib.hid (And.intro hsz hwf)
  have Hih := Lib.hid ih
  have Hll := Lib.hid (And.intro hll hls)
  clear hl hsz hwf ih hll hls
  go_enter Tryz.func45, Tryz.ntmps45
  go_wp2_with (first
    | (go_at_call 52; refine (Hih.out _ A len cap Hs.out.1 Hs.out.2 (Hl.out.keep (keeps_of_below (by repeat' (first | with_reducible assumption | with_reducible exact Below.refl _ _ | with_reducible refine Below.setCell ?_ ?_ _ | with_reducible refine Below.alloc ?_ ?_ _ | with_reducible refine Below.drew ?_ | with_reducible refine below_drewN ?_ _ | omega | (simp; done) | (simp; omega)))))).mono ?_; rintro e w2 ⟨A2, len2, cap2, rfl, hr2, hb2⟩; have HR2 := Lib.hid hr2; clear hr2; have hB2 := keeps_below (show Below w.heap.size w _ from (by repeat' (first | with_reducible assumption | with_reducible exact Below.refl _ _ | with_reducible refine Below.setCell ?_ ?_ _ | with_reducible refine Below.alloc ?_ ?_ _ | with_reducible refine Below.drew ?_ | with_reducible refine below_drewN ?_ _ | omega | (simp; done) | (simp; omega)))) hb2; obtain ⟨hc2, hf2⟩ := bcell hb2; have hs2 := hb2.size; (try simp at hs2); have hl0_2 : w.heap.size < w2.heap.size := (by omega); have hl1_2 : w.heap.size + 1 < w2.heap.size := (by omega))
    | (go_at_call 90; refine (groupValue_any (P := fun b => w.heap.size + 1 + 1 ≤ b) (attrsOf c l) _ A2 len2 cap2 (HR2.out.turn (KeepsOn.refl _ _) (fun b hb _ => by simp at hb; omega)) (by have h1 := HR2.out.1; have h2 := Hll.out; have h3 := Hs.out.1; omega) (fun b hb => by omega)).mono ?_; rintro e w3 ⟨x3, y3, rfl, hr3, hb3⟩; have HR3 := Lib.hid hr3; have hsh := rsv_group hr3; clear hr3; have hB3 := keeps_below (show Below w.heap.size w _ from (by repeat' (first | with_reducible assumption | with_reducible exact Below.refl _ _ | with_reducible refine Below.setCell ?_ ?_ _ | with_reducible refine Below.alloc ?_ ?_ _ | with_reducible refine Below.drew ?_ | with_reducible refine below_drewN ?_ _ | omega | (simp; done) | (simp; omega)))) hb3; obtain ⟨hc3, hf3⟩ := bcell hb3; have hs3 := hb3.size; (try simp at hs3); have hl0_3 : w.heap.size < w3.heap.size := (by omega); have hl1_3 : w.heap.size + 1 < w3.heap.size := (by omega); obtain ⟨A3, len3, cap3, rfl, rfl⟩ := hsh))
  exact bodyPost_ret (v := .agg #[.int .u64 len3, .iface 199 (.slice A3 len3 cap3)]) (by simp [results, Tryz.results45, go_sem, hc2, hf2, hl0_2, hl1_2, hc3, hf3, hl0_3, hl1_3]) rfl ⟨_, _, rfl, HR3.out.turn (by repeat' (first | with_reducible assumption | with_reducible exact KeepsOn.refl _ _ | with_reducible refine KeepsOn.setCell ?_ ?_ _ | with_reducible refine KeepsOn.alloc ?_ _ | with_reducible refine KeepsOn.drew ?_ | (intro b hb; simp at hb ⊢; omega) | (rintro b ⟨_, hb⟩; simp at hb ⊢; omega) | (rintro b ⟨_, hb⟩; omega))) (fun b hb _ => by omega), (by repeat' (first | with_reducible assumption | with_reducible exact Below.refl _ _ | with_reducible refine Below.setCell ?_ ?_ _ | with_reducible refine Below.alloc ?_ ?_ _ | with_reducible refine Below.drew ?_ | with_reducible refine below_drewN ?_ _ | omega | (simp; done) | (simp; omega)))⟩

theorem ko_chain {P : Nat → Prop} {a b c : World} (h : KeepsOn P a b) (hb : Below b.heap.size b c) : KeepsOn P a c := h.trans (keepsOn_of_below hb P)

/-- The parts of a valuer's walk behind the value at its end. -/
theorem rsv_shape {P : Nat → Prop} {w : World} {d : SVal} {x y : Value} (h : RSV P w d x y) : ∃ i, x = .int .u64 i ∧ (y = .nilIface ∨ ∃ t u, y = .iface t u) := by
  obtain ⟨i, rfl⟩ := rsv_num h
  exact ⟨i, rfl, rsv_any h⟩

set_option maxRecDepth 100000 in
set_option maxHeartbeats 400000 in
theorem of_valuer_nil (A : Option Addr) (cap : Nat) : Calls Tryz.prog 45 #[.agg #[.int .i64 9, .int .u64 n, .string ByteArray.empty, .int .i64 t.sec, .int .i64 t.nsec, .int .i64 t.off, .slice A 0 cap], .pointer c] w (ValPost (.valuer n (.any .nil) c) w) := by
  unfold ValPost
  go_enter Tryz.func45, Tryz.ntmps45
  go_wp2_with (first
    | (go_at_call 47; refine (anyValue_valuer n (.int .u64 0) .nilIface c _).mono ?_; rintro e w3 ⟨rfl, hb3⟩; have hB3 := keeps_below (show Below w.heap.size w _ from (by repeat' (first | with_reducible assumption | with_reducible exact Below.refl _ _ | with_reducible refine Below.setCell ?_ ?_ _ | with_reducible refine Below.alloc ?_ ?_ _ | with_reducible refine Below.drew ?_ | with_reducible refine below_drewN ?_ _ | omega | (simp; done) | (simp; omega)))) hb3; obtain ⟨hc3, hf3⟩ := bcell hb3; have hs3 := hb3.size; (try simp at hs3); have hl0_3 : w.heap.size < w3.heap.size := (by omega); have hl1_3 : w.heap.size + 1 < w3.heap.size := (by omega)))
  exact bodyPost_ret (v := .agg #[.int .u64 0, .iface 144 (.agg #[.int .u64 n, .int .u64 0, .nilIface, .pointer c])]) (by simp [results, Tryz.results45, go_sem, hc3, hf3, hl0_3, hl1_3]) rfl ⟨_, _, rfl, by unfold RSV; exact ⟨_, _, rfl, rfl, by unfold RSV; exact ⟨rfl, rfl⟩⟩, (by repeat' (first | with_reducible assumption | with_reducible exact Below.refl _ _ | with_reducible refine Below.setCell ?_ ?_ _ | with_reducible refine Below.alloc ?_ ?_ _ | with_reducible refine Below.drew ?_ | with_reducible refine below_drewN ?_ _ | omega | (simp; done) | (simp; omega)))⟩

set_option maxRecDepth 100000 in
set_option maxHeartbeats 400000 in
theorem of_valuer_cons (key : ByteArray) (v : GVal) (r : GAttrs) (b o len cap : Nat) (hr : RAs w (.cons key v r) b o) (hlen : 0 < len) (hsz : v.size ≤ 300000) (hwf : v.wf) (ih : ValV c v) : Calls Tryz.prog 45 #[.agg #[.int .i64 9, .int .u64 n, .string ByteArray.empty, .int .i64 t.sec, .int .i64 t.nsec, .int .i64 t.off, .slice (some ⟨b, o, none⟩) len cap], .pointer c] w (ValPost (.valuer n (valueOf c v) c) w) := by
  unfold ValPost
  have hlt : (0 : Int) < (len : Int) := by omega
  unfold RAs at hr
  obtain ⟨hkey, hv, _⟩ := hr
  have hbb : b < w.heap.size := World.block_lt_of_cell? w _ hkey
  have hbb1 : b < w.heap.size + 1 := by omega
  have hbb2 : b < w.heap.size + 1 + 1 := by omega
  have hbn : b ≠ w.heap.size := by omega
  have hbn1 : b ≠ w.heap.size + 1 := by omega
  have hbn2 : b ≠ w.heap.size + 1 + 1 := by omega
  obtain ⟨vk, vn, vs, vt, vl⟩ := v
  unfold RVal at hv
  obtain ⟨c0, c1, c2, c3, c4, c5, Av, lenv, capv, c6, hlenv, hAv⟩ := hv
  have HSv := Lib.hid (show RS w vl Av lenv from ⟨hlenv, hAv⟩)
  have Hs := Lib.hid (And.intro hsz hwf)
  have Hih := Lib.hid ih
  clear hkey hlenv hAv hsz hwf ih
  go_enter Tryz.func45, Tryz.ntmps45
  go_wp2_with (first
    | (go_at_call 45; refine (Hih.out _ _ _ _ Hs.out.1 Hs.out.2 (HSv.out.keep (keeps_of_below (by repeat' (first | with_reducible assumption | with_reducible exact Below.refl _ _ | with_reducible refine Below.setCell ?_ ?_ _ | with_reducible refine Below.alloc ?_ ?_ _ | with_reducible refine Below.drew ?_ | with_reducible refine below_drewN ?_ _ | omega | (simp; done) | (simp; omega)))))).mono ?_; rintro e w2 ⟨x2, y2, rfl, hr2, hb2⟩; have HR2 := Lib.hid hr2; have hsh := rsv_shape hr2; clear hr2; have hB2 := keeps_below (show Below w.heap.size w _ from (by repeat' (first | with_reducible assumption | with_reducible exact Below.refl _ _ | with_reducible refine Below.setCell ?_ ?_ _ | with_reducible refine Below.alloc ?_ ?_ _ | with_reducible refine Below.drew ?_ | with_reducible refine below_drewN ?_ _ | omega | (simp; done) | (simp; omega)))) hb2; obtain ⟨hc2, hf2⟩ := bcell hb2; have hs2 := hb2.size; (try simp at hs2); have hl0_2 : w.heap.size < w2.heap.size := (by omega); have hl1_2 : w.heap.size + 1 < w2.heap.size := (by omega); have hl2_2 : w.heap.size + 1 + 1 < w2.heap.size := (by omega); obtain ⟨i2, rfl, hy⟩ := hsh; rcases hy with rfl | ⟨ty, u, rfl⟩)
    | (go_at_call 47; refine (anyValue_valuer n _ _ c _).mono ?_; rintro e w3 ⟨rfl, hb3⟩; have HK3 := Lib.hid (ko_chain (P := fun b => w.heap.size + 1 + 1 + 1 ≤ b) (a := w2) (by repeat' (first | with_reducible assumption | with_reducible exact KeepsOn.refl _ _ | with_reducible refine KeepsOn.setCell ?_ ?_ _ | with_reducible refine KeepsOn.alloc ?_ _ | with_reducible refine KeepsOn.drew ?_ | (intro b hb; simp at hb ⊢; omega) | (rintro b ⟨_, hb⟩; simp at hb ⊢; omega) | (rintro b ⟨_, hb⟩; omega))) hb3); have hB3 := keeps_below (show Below w.heap.size w _ from (by repeat' (first | with_reducible assumption | with_reducible exact Below.refl _ _ | with_reducible refine Below.setCell ?_ ?_ _ | with_reducible refine Below.alloc ?_ ?_ _ | with_reducible refine Below.drew ?_ | with_reducible refine below_drewN ?_ _ | omega | (simp; done) | (simp; omega)))) hb3; obtain ⟨hc3, hf3⟩ := bcell hb3; have hs3 := hb3.size; (try simp at hs3); have hl0_3 : w.heap.size < w3.heap.size := (by omega); have hl1_3 : w.heap.size + 1 < w3.heap.size := (by omega); have hl2_3 : w.heap.size + 1 + 1 < w3.heap.size := (by omega)))
  · exact bodyPost_ret (v := .agg #[.int .u64 0, .iface 144 (.agg #[.int .u64 n, .int .u64 i2, .nilIface, .pointer c])]) (by simp [results, Tryz.results45, go_sem, hc2, hf2, hc3, hf3, hl0_2, hl1_2, hl2_2, hl0_3, hl1_3, hl2_3]) rfl ⟨_, _, rfl, by unfold RSV; exact ⟨_, _, rfl, rfl, ((HR2.out.turn (KeepsOn.refl _ _) (fun b hb _ => by simp at hb; exact hb)).turn HK3.out (fun b hb _ => hb)).turn (by repeat' (first | with_reducible assumption | with_reducible exact KeepsOn.refl _ _ | with_reducible refine KeepsOn.setCell ?_ ?_ _ | with_reducible refine KeepsOn.alloc ?_ _ | with_reducible refine KeepsOn.drew ?_ | (intro b hb; simp at hb ⊢; omega) | (rintro b ⟨_, hb⟩; simp at hb ⊢; omega) | (rintro b ⟨_, hb⟩; omega))) (fun b hb _ => by simp at hb ⊢; omega)⟩, (by repeat' (first | with_reducible assumption | with_reducible exact Below.refl _ _ | with_reducible refine Below.setCell ?_ ?_ _ | with_reducible refine Below.alloc ?_ ?_ _ | with_reducible refine Below.drew ?_ | with_reducible refine below_drewN ?_ _ | omega | (simp; done) | (simp; omega)))⟩
  · exact bodyPost_ret (v := .agg #[.int .u64 0, .iface 144 (.agg #[.int .u64 n, .int .u64 i2, .iface ty u, .pointer c])]) (by simp [results, Tryz.results45, go_sem, hc2, hf2, hc3, hf3, hl0_2, hl1_2, hl2_2, hl0_3, hl1_3, hl2_3]) rfl ⟨_, _, rfl, by unfold RSV; exact ⟨_, _, rfl, rfl, ((HR2.out.turn (KeepsOn.refl _ _) (fun b hb _ => by simp at hb; exact hb)).turn HK3.out (fun b hb _ => hb)).turn (by repeat' (first | with_reducible assumption | with_reducible exact KeepsOn.refl _ _ | with_reducible refine KeepsOn.setCell ?_ ?_ _ | with_reducible refine KeepsOn.alloc ?_ _ | with_reducible refine KeepsOn.drew ?_ | (intro b hb; simp at hb ⊢; omega) | (rintro b ⟨_, hb⟩; simp at hb ⊢; omega) | (rintro b ⟨_, hb⟩; omega))) (fun b hb _ => by simp at hb ⊢; omega)⟩, (by repeat' (first | with_reducible assumption | with_reducible exact Below.refl _ _ | with_reducible refine Below.setCell ?_ ?_ _ | with_reducible refine Below.alloc ?_ ?_ _ | with_reducible refine Below.drew ?_ | with_reducible refine below_drewN ?_ _ | omega | (simp; done) | (simp; omega)))⟩

end

theorem of_val (c : Option Addr) (d : GVal) (ihL : ValL c d.l) (ihV : ∀ v : GVal, v.size < d.size → ValV c v) : ValV c d := by
  obtain ⟨k, n, s, t, l⟩ := d
  intro w A len cap hsz hwf hl
  simp only [vVal, kind_mk, n_mk, s_mk, t_mk, l_mk] at hl ihL ⊢
  unfold GVal.wf at hwf
  obtain ⟨hk, hn, hs, ht1, ht2, ht3, hlen, hlw⟩ := hwf
  unfold valueOf
  by_cases h1 : k = 1
  · subst h1; rw [if_pos rfl]; exact of_bool _ _ _ _ _ _ _ _ hn.1 hn.2
  rw [if_neg h1]
  by_cases h2 : k = 2
  · subst h2; rw [if_pos rfl]; exact of_dur _ _ _ _ _ _ _ _ hn.1 hn.2
  rw [if_neg h2]
  by_cases h3 : k = 3
  · subst h3; rw [if_pos rfl]; exact of_float _ _ _ _ _ _ _ _ hn.1 hn.2
  rw [if_neg h3]
  by_cases h4 : k = 4
  · subst h4; rw [if_pos rfl]; exact of_int _ _ _ _ _ _ _ _ hn.1 hn.2
  rw [if_neg h4]
  by_cases h5 : k = 5
  · subst h5; rw [if_pos rfl]; exact of_str _ _ _ _ _ _ _ _ hs
  rw [if_neg h5]
  by_cases h6 : k = 6
  · subst h6; rw [if_pos rfl]; exact of_time _ _ _ _ _ _ _ _
  rw [if_neg h6]
  by_cases h7 : k = 7
  · subst h7; rw [if_pos rfl]; exact of_uint _ _ _ _ _ _ _ _ hn.1 hn.2
  rw [if_neg h7]
  have hls : l.size ≤ 300000 := by simp only [GVal.size] at hsz; omega
  by_cases h8 : k = 8
  · subst h8; rw [if_pos rfl]; exact of_group _ _ _ _ _ _ _ _ l hl hls hlw ihL
  rw [if_neg h8]
  by_cases h9 : k = 9
  · subst h9; rw [if_pos rfl]
    by_cases hse : s.size = 0
    · rw [if_pos hse]
      obtain rfl := empty_of_size hse
      cases l with
      | nil =>
        have : len = 0 := hl.1
        subst this
        have e : headOf c .nil = .any .nil := by simp only [headOf]
        rw [e]
        exact of_valuer_nil _ _ _ _ _ _
      | cons key v r =>
        have hp : 0 < len := by have := hl.1; simp only [GAttrs.len] at this; omega
        obtain ⟨b, o, rfl, hr⟩ := hl.2 hp
        have e : headOf c (.cons key v r) = valueOf c v := by simp only [headOf]
        rw [e]
        unfold GAttrs.wf at hlw
        simp only [GAttrs.size] at hls
        exact of_valuer_cons _ _ _ _ key v r b o len cap hr hp (by omega) hlw.2.1 (ihV v (by simp only [GVal.size, GAttrs.size]; omega))
    · rw [if_neg hse]
      exact of_throws _ _ _ _ _ _ _ _ (fun h => hse (by rw [h]; rfl))
  rw [if_neg h9]
  exact of_any _ _ _ _ _ _ _ _ k ⟨h1, h2, h3, h4, h5, h6, h7, h8, h9⟩ l hl

theorem of_both (c : Option Addr) : ∀ N : Nat, (∀ d : GVal, d.size ≤ N → ValV c d) ∧ (∀ l : GAttrs, l.size ≤ N → ValL c l)
  | 0 => ⟨fun d h => absurd h (by have := size_pos d; omega), fun l h => attrs_of c l (fun d hd => absurd hd (by have := size_pos d; omega))⟩
  | N + 1 => by
    have hv : ∀ d : GVal, d.size ≤ N + 1 → ValV c d := fun d h => of_val c d ((of_both c N).2 d.l (by obtain ⟨k, n, s, t, l⟩ := d; simp only [GVal.size, l_mk] at h ⊢; omega)) (fun v hv => (of_both c N).1 v (by omega))
    exact ⟨hv, fun l h => attrs_of c l (fun d hd => hv d (by omega))⟩

/-- impl.valueOf. -/
theorem valueOf_any (c : Option Addr) (d : GVal) : ValV c d := (of_both c d.size).1 d (Nat.le_refl _)
/-- impl.attrsOf. -/
theorem attrsOf_any (c : Option Addr) (l : GAttrs) : ValL c l := (of_both c l.size).2 l (Nat.le_refl _)

end Go.Proofs.YtdeomgfapffidaaGreatDoor.Va
