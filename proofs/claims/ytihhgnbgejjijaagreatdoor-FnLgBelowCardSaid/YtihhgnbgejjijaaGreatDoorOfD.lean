/- The bits of a float, and the time that a value of package slog holds. -/
import Derived.Test.YtihhgnbgejjijaaGreatDoorSMem
import Derived.Laws.Externs
import Derived.Test.YtihhgnbgejjijaaGreatDoorAnyOf
import Derived.Test.YtihhgnbgejjijaaGreatDoorGroupC
import Derived.Deep.AppendLies
import Derived.Deep.RegionHeldLaw
import Derived.WalkSmall
namespace Go.Proofs.YtihhgnbgejjijaaGreatDoor.Va
set_option linter.unusedVariables false
set_option linter.unusedSimpArgs false
open Go Go.RowKit

theorem frombits_run (m : Int) (w : World) : (callFunc 126 #[.int .u64 m]).run Tryz.prog w = .ok (.value (.float .f64 m.toNat)) w := by
  rw [run_callFunc_extern (fn := Tryz.f126) (e := Extern.MathFloatBits.float64frombits) (by kernel_rfl) (by kernel_rfl) (by kernel_rfl) (by kernel_rfl) (by kernel_rfl)]
  rfl

set_option maxRecDepth 100000 in
set_option maxHeartbeats 400000 in
theorem time_any (i a b c : Int) (z : ByteArray) (w : World) : Calls Tryz.prog 136 #[.agg #[.int .u64 i, .iface 243 (.agg #[.int .i64 a, .int .i64 b, .int .i64 c, .string z])]] w fun e w' => e = .returned (.agg #[.int .i64 a, .int .i64 b, .int .i64 c, .string z]) ∧ Below w.heap.size w w' := by
  go_enter Tryz.func136, Tryz.ntmps136
  go_wp2
  refine bodyPost_ret (v := .agg #[.int .i64 a, .int .i64 b, .int .i64 c, .string z]) (by simp [results, Tryz.results136, go_sem]) rfl ⟨rfl, (by repeat' (first | with_reducible assumption | with_reducible exact Below.refl _ _ | with_reducible refine Below.setCell ?_ ?_ _ | with_reducible refine Below.alloc ?_ ?_ _ | with_reducible refine Below.drew ?_ | with_reducible refine below_drewN ?_ _ | omega | (simp; done) | (simp; omega)))⟩


end Go.Proofs.YtihhgnbgejjijaaGreatDoor.Va

/- The values of package slog that Vals stand for (impl.attrsOf, valueOf): the walks. -/
namespace Go.Proofs.YtihhgnbgejjijaaGreatDoor.Va
set_option linter.unusedVariables false
set_option linter.unusedSimpArgs false
open Go Go.RowKit

/-- What impl.valueOf hands back. -/
def ValPost (v : SVal) (w : World) (e : Ending) (w' : World) : Prop := ∃ x y, e = .returned (.agg #[x, y]) ∧ RSV (New w) w' v x y ∧ Below w.heap.size w w'
def AttrsPost (l : SAttrs) (w : World) (e : Ending) (w' : World) : Prop := ∃ A len cap, e = .returned (.slice A len cap) ∧ RSS (New w) w' l A len ∧ Below w.heap.size w w'

def ValV (c : Option Addr) (d : GVal) : Prop := ∀ (w : World) (A : Option Addr) (len cap : Nat), d.size ≤ 300000 → d.wf → RS w d.l A len →
  Calls Tryz.prog 92 #[vVal d A len cap, .pointer c] w (ValPost (valueOf c d) w)
def ValL (c : Option Addr) (l : GAttrs) : Prop := ∀ (w : World) (A : Option Addr) (len cap : Nat), l.size ≤ 300000 → l.wf → RS w l A len →
  Calls Tryz.prog 67 #[.slice A len cap, .pointer c] w (AttrsPost (attrsOf c l) w)

theorem rsv_ones {P : Nat → Prop} {w : World} {d : SVal} {x y : Value} (key : ByteArray) (h : RSV P w d x y) : ∀ u ∈ [Value.string key, x, y], u.oneCell' = true := by
  obtain ⟨i, rfl⟩ := rsv_num h
  rcases rsv_any h with rfl | ⟨t, u, rfl⟩ <;> (intro v hv; simp at hv; rcases hv with rfl | rfl | rfl <;> rfl)

/-- One round. -/
def OfRnd (c : Option Addr) (w : World) (l : GAttrs) (b o : Nat) (slot5 slot10 : Value) (wr : World) : Prop :=
  ∃ (k : Nat) (rest : GAttrs) (acc : SAttrs) (n : Nat) (xs : List Value), k + rest.len = l.len ∧ slot10 = .int .i64 k ∧ wr.ownsRow w.heap.size 111 3 slot5 n xs ∧ RSX (Beside w.heap.size slot5) wr acc xs ∧
    attrsOf c l = SAttrs.append acc (attrsOf c rest) ∧ acc.len ≤ k ∧ RAs w rest b (o + k * 8) ∧ rest.size ≤ l.size ∧ rest.wf ∧ Below w.heap.size w wr

theorem attrsOf_nil (c : Option Addr) : attrsOf c .nil = .nil := by simp only [attrsOf]
theorem attrsOf_cons (c : Option Addr) (key : ByteArray) (v : GVal) (r : GAttrs) : attrsOf c (.cons key v r) = .cons key (valueOf c v) (attrsOf c r) := by simp only [attrsOf]

set_option maxRecDepth 100000 in
set_option maxHeartbeats 400000 in
theorem attrs_of (c : Option Addr) (l : GAttrs) (ih : ∀ d : GVal, d.size ≤ l.size → ValV c d) : ValL c l := by
  intro w A len cap hsz hwf hl
  obtain ⟨hl0, hl1⟩ := hl
  obtain ⟨i0, hi, hz0, hz1, hz2⟩ := info_parts infoSAttr
  by_cases hz : len = 0
  · subst hz
    have : l = .nil := by cases l with | nil => rfl | cons => simp [GAttrs.len] at hl0
    subst this
    clear hl0 hl1
    go_enter Tryz.func67, Tryz.ntmps67
    go_wp2
    go_loopw [5, 10] (fun a c wr => a = .slice none 0 0 ∧ c = .int .i64 0 ∧ wr = w) (fun _ _ _ => 0)
    case atStart => exact ⟨rfl, rfl, rfl⟩
    case round =>
      obtain ⟨rfl, rfl, rfl⟩ := hrel
      go_wp2
      go_ret
      exact ⟨none, 0, 0, rfl, by rw [attrsOf_nil]; exact RSS.nil_ _ _ _, Below.refl _ _⟩
  · obtain ⟨b, o, rfl, hr⟩ := hl1 (by omega)
    clear hl1
    have Hl0 := Lib.hid hl0
    clear hl0
    go_enter Tryz.func67, Tryz.ntmps67
    go_wp2
    go_loopw [5, 10] (fun a q wr => OfRnd c w l b o a q wr) (fun _ q _ => len - (intOf q).toNat)
    case atStart => exact ⟨0, l, .nil, 0, [], by omega, rfl, World.ownsRow_nil _ _ _ _, rfl, rfl, Nat.le_refl _, hr, Nat.le_refl _, hwf, Below.refl _ _⟩
    case round =>
      obtain ⟨k, rest, acc, n, xs, hk, rfl, hown, hx, hval, hacc, hrs, hrz, hrw, hB⟩ := hrel
      have hk' := Hl0.out
      have HX := Lib.hid hx
      have HO := Lib.hid hown
      have Hval := Lib.hid hval
      have hn : n = acc.len := by have h1 := hown.1; have h2 := RSX.len acc xs hx; omega
      have hll := len_le_size l
      have hsize := hB.size
      cases rest with
      | nil =>
        have hke : ¬ ((k : Int) < (len : Int)) := by simp [GAttrs.len] at hk; omega
        obtain ⟨A', cap', rfl, hrsp⟩ := rss_of_owns (Q := New w) hown hx (fun b hb => hb.1) (fun b hb => hb)
        have HR := Lib.hid hrsp
        clear hown hx hval hk hk' hrsp hrs hn hrw
        go_wp2
        go_ret
        refine ⟨A', _, cap', rfl, ?_, hB⟩
        rw [Hval.out, attrsOf_nil, sappend_nil]; exact HR.out
      | cons key v r =>
        have hlt : k < len := by simp only [GAttrs.len] at hk; omega
        have hkk : k + 1 + r.len = l.len := by simp only [GAttrs.len] at hk; omega
        have hvs : v.size + r.size ≤ l.size := by simpa only [GAttrs.size] using hrz
        have hrle : r.size ≤ l.size := by omega
        have hvle : v.size ≤ 300000 := by omega
        have Hih := Lib.hid (ih v (by omega))
        unfold GAttrs.wf at hrw
        have Hvw := Lib.hid hrw.2.1
        have Hrw := Lib.hid hrw.2.2
        unfold RAs at hrs
        obtain ⟨hkey, hv, hr'⟩ := hrs
        have Hr := Lib.hid hr'
        have hv := hv.keep (keeps_of_below hB)
        have hkey := (keeps_of_below hB).cell hkey
        have hbb : b < wr.heap.size := World.block_lt_of_cell? wr _ hkey
        have Hend := Lib.hid (Hval.out.trans (congrArg (SAttrs.append acc) (attrsOf_cons c key v r)))
        obtain ⟨vk, vn, vs, vt, vl⟩ := v
        unfold RVal at hv
        obtain ⟨c0, c1, c2, c3, c4, c5, A', len', cap', c6, hlen', hA'⟩ := hv
        have HS := Lib.hid (show RS wr vl A' len' from ⟨hlen', hA'⟩)
        have hkn : n + 1 ≤ 300000 := by omega
        have HLT := Lib.hid (fun g hg => (hown.lt g hg).2)
        clear hlen' hA' hr' hr ih hown hx hval hk hk' hrz hrw hvs Hval hn
        go_wp2
        go_region_held_law (fun w' => w'.cell? ⟨wr.heap.size, 0, none⟩ = some (.string key) ∧ w'.cell? ⟨wr.heap.size, 1, none⟩ = some (.int .i64 vk) ∧ w'.cell? ⟨wr.heap.size, 2, none⟩ = some (.int .u64 vn) ∧ w'.cell? ⟨wr.heap.size, 3, none⟩ = some (.string vs) ∧ w'.cell? ⟨wr.heap.size, 4, none⟩ = some (.int .i64 vt.sec) ∧ w'.cell? ⟨wr.heap.size, 5, none⟩ = some (.int .i64 vt.nsec) ∧ w'.cell? ⟨wr.heap.size, 6, none⟩ = some (.int .i64 vt.off) ∧ w'.cell? ⟨wr.heap.size, 7, none⟩ = some (.slice A' len' cap')) (go_keep) (first
          | (refine step_append_lies _ rfl (.tmp 14) (.tmp 22) 113 rfl w.heap.size 111 i0 _ 3 40 Tryz.underlying113 hi hz0 hz1 hz2 rfl (by decide) _ n xs rfl (HO2.out.alloc _) ⟨_, 0, none⟩ 1 1 [.string key, x2, y2] rfl rfl (by intro j u hj; exact cells_new _ _ _ _ (by simp) j u hj) H1.out (by decide) (by unfold maxLen; omega) (by omega) (by simp; omega) _ rfl ?_; intro g cap3 w3 hown3 hgrow3 hat3 hlt3; have hc3 : ∀ o', w3.cell? ⟨wr.heap.size, o', none⟩ = w2.cell? ⟨wr.heap.size, o', none⟩ := (fun o' => (World.cell?_of_block (a := ⟨wr.heap.size, o', none⟩) (hgrow3.block wr.heap.size (by simp; omega) (fun e => by have := HLT.out _ e.symm; omega))).trans (World.cell?_of_block (a := ⟨wr.heap.size, o', none⟩) (Below.heap_alloc w2 _ _ hl2))); have HO3 := Lib.hid hown3; have HG3 := Lib.hid hgrow3; have HA3 := Lib.hid hat3; clear hown3 hgrow3 hat3 hlt3)
          | (go_at_call 92; refine (Hih.out _ _ _ _ hvle Hvw.out (HS.out.keep (keeps_of_below (by repeat' (first | with_reducible assumption | with_reducible exact Below.refl _ _ | with_reducible refine Below.setCell ?_ ?_ _ | with_reducible refine Below.alloc ?_ ?_ _ | with_reducible refine Below.drew ?_ | with_reducible refine below_drewN ?_ _ | omega | (simp; done) | (simp; omega)))))).mono ?_; rintro e w2 ⟨x2, y2, rfl, hr2, hb2⟩; have HR2 := Lib.hid hr2; have HB2 := Lib.hid (keeps_below (show Below w.heap.size w _ from (by repeat' (first | with_reducible assumption | with_reducible exact Below.refl _ _ | with_reducible refine Below.setCell ?_ ?_ _ | with_reducible refine Below.alloc ?_ ?_ _ | with_reducible refine Below.drew ?_ | with_reducible refine below_drewN ?_ _ | omega | (simp; done) | (simp; omega)))) hb2); have HBr := Lib.hid (keeps_below (show Below wr.heap.size wr _ from (by repeat' (first | with_reducible assumption | with_reducible exact Below.refl _ _ | with_reducible refine Below.setCell ?_ ?_ _ | with_reducible refine Below.alloc ?_ ?_ _ | with_reducible refine Below.drew ?_ | with_reducible refine below_drewN ?_ _ | omega | (simp; done) | (simp; omega)))) hb2); obtain ⟨hc2, hf2⟩ := bcell hb2; have hs2 := hb2.size; simp at hs2; have hl2 : wr.heap.size < w2.heap.size := (by omega); have HO2 := Lib.hid (own_below ((HO.out.alloc _).drew) hb2); have H1 := Lib.hid (rsv_ones key hr2); clear hr2))
        go_wp2
        refine ⟨⟨k + 1, r, SAttrs.snoc acc key (valueOf c (.mk vk vn vs vt vl)), n + 1, _, hkk, by push_cast; rfl, HO3.out, ?_, ?_, ?_, ?_, hrle, Hrw.out, ?_⟩, ?_⟩
        · exact rsx_snoc (RSX.turn (keepsOn_of_below HBr.out _) (fun _ h _ => h) _ _ HX.out) HR2.out (fun g hg => by have := HLT.out g hg; simp; omega) (by simp; omega) (fun P => (KeepsOn.refl P _).alloc _) (by simp) HG3.out (HA3.out.elim (fun h => .inl h.symm) (fun h => .inr (by rw [← h]; rfl)))
        · rw [ssnoc_append]; exact Hend.out
        · rw [slen_snoc]; omega
        · have := Hr.out
          rwa [show o + (k + 1) * 8 = o + k * 8 + 8 by omega]
        · exact Below.grown (HB2.out.alloc (by omega) _) HG3.out (by simp; omega) (fun g hg => (HO.out.lt g hg).1)
        · simp only [intOf]; omega

end Go.Proofs.YtihhgnbgejjijaaGreatDoor.Va

/- The values of package slog that Vals stand for (impl.valueOf), by kinds: the walks. -/
namespace Go.Proofs.YtihhgnbgejjijaaGreatDoor.Va
set_option linter.unusedVariables false
set_option linter.unusedSimpArgs false
open Go Go.RowKit

theorem wrap_back {n : Int} (hn : 0 ≤ n) (hn1 : n ≤ 18446744073709551615) : IntKind.u64.wrap (wrap64 n) = n := by
  simp only [IntKind.wrap, wrap64, IntKind.signed, IntKind.bits]
  simp
  omega

theorem bit_one {n : Int} (hn : 0 ≤ n) (hn1 : n ≤ 18446744073709551615) : bits BinOp.and IntKind.u64 n 1 = n % 2 := and_one_u64 n hn hn1

section
variable (c : Option Addr) (n : Int) (s : ByteArray) (t : GTime) (w : World) (A : Option Addr) (len cap : Nat)

set_option maxRecDepth 100000 in
set_option maxHeartbeats 400000 in
theorem of_uint (hn : 0 ≤ n) (hn1 : n ≤ 18446744073709551615) : Calls Tryz.prog 92 #[.agg #[.int .i64 7, .int .u64 n, .string s, .int .i64 t.sec, .int .i64 t.nsec, .int .i64 t.off, .slice A len cap], .pointer c] w (ValPost (.num 7 n) w) := by
  unfold ValPost
  go_enter Tryz.func92, Tryz.ntmps92
  go_wp2_with (go_at_call 130; refine (c_uint n _).mono ?_; rintro e w2 ⟨rfl, hb2⟩; have hB2 := keeps_below (show Below w.heap.size w _ from (by repeat' (first | with_reducible assumption | with_reducible exact Below.refl _ _ | with_reducible refine Below.setCell ?_ ?_ _ | with_reducible refine Below.alloc ?_ ?_ _ | with_reducible refine Below.drew ?_ | with_reducible refine below_drewN ?_ _ | omega | (simp; done) | (simp; omega)))) hb2; obtain ⟨hc2, hf2⟩ := bcell hb2; have hs2 := hb2.size; (try simp at hs2); have hl0 : w.heap.size < w2.heap.size := (by omega); have hl1 : w.heap.size + 1 < w2.heap.size := (by omega))
  exact bodyPost_ret (v := .agg #[.int .u64 n, .iface 198 (.int .i64 7)]) (by simp [results, Tryz.results92, go_sem, hc2, hf2, hl0, hl1]) rfl ⟨_, _, rfl, by unfold RSV; exact ⟨rfl, rfl, by omega, hn, hn1⟩, (by repeat' (first | with_reducible assumption | with_reducible exact Below.refl _ _ | with_reducible refine Below.setCell ?_ ?_ _ | with_reducible refine Below.alloc ?_ ?_ _ | with_reducible refine Below.drew ?_ | with_reducible refine below_drewN ?_ _ | omega | (simp; done) | (simp; omega)))⟩

set_option maxRecDepth 100000 in
set_option maxHeartbeats 400000 in
theorem of_str (hs : s.size ≤ 140737488355328) : Calls Tryz.prog 92 #[.agg #[.int .i64 5, .int .u64 n, .string s, .int .i64 t.sec, .int .i64 t.nsec, .int .i64 t.off, .slice A len cap], .pointer c] w (ValPost (.str s) w) := by
  unfold ValPost
  go_enter Tryz.func92, Tryz.ntmps92
  go_wp2_with (go_at_call 128; refine (c_str s hs _).mono ?_; rintro e w2 ⟨rfl, hb2⟩; have hB2 := keeps_below (show Below w.heap.size w _ from (by repeat' (first | with_reducible assumption | with_reducible exact Below.refl _ _ | with_reducible refine Below.setCell ?_ ?_ _ | with_reducible refine Below.alloc ?_ ?_ _ | with_reducible refine Below.drew ?_ | with_reducible refine below_drewN ?_ _ | omega | (simp; done) | (simp; omega)))) hb2; obtain ⟨hc2, hf2⟩ := bcell hb2; have hs2 := hb2.size; (try simp at hs2); have hl0 : w.heap.size < w2.heap.size := (by omega); have hl1 : w.heap.size + 1 < w2.heap.size := (by omega))
  exact bodyPost_ret (v := .agg #[.int .u64 s.size, .iface 230 (.string s)]) (by simp [results, Tryz.results92, go_sem, hc2, hf2, hl0, hl1]) rfl ⟨_, _, rfl, by unfold RSV; exact ⟨rfl, rfl⟩, (by repeat' (first | with_reducible assumption | with_reducible exact Below.refl _ _ | with_reducible refine Below.setCell ?_ ?_ _ | with_reducible refine Below.alloc ?_ ?_ _ | with_reducible refine Below.drew ?_ | with_reducible refine below_drewN ?_ _ | omega | (simp; done) | (simp; omega)))⟩

set_option maxRecDepth 100000 in
set_option maxHeartbeats 400000 in
theorem of_int (hn : 0 ≤ n) (hn1 : n ≤ 18446744073709551615) : Calls Tryz.prog 92 #[.agg #[.int .i64 4, .int .u64 n, .string s, .int .i64 t.sec, .int .i64 t.nsec, .int .i64 t.off, .slice A len cap], .pointer c] w (ValPost (.num 4 n) w) := by
  unfold ValPost
  go_enter Tryz.func92, Tryz.ntmps92
  go_wp2_with (go_at_call 127; refine (c_int _ _).mono ?_; rintro e w2 ⟨rfl, hb2⟩; rw [wrap_back hn hn1]; have hB2 := keeps_below (show Below w.heap.size w _ from (by repeat' (first | with_reducible assumption | with_reducible exact Below.refl _ _ | with_reducible refine Below.setCell ?_ ?_ _ | with_reducible refine Below.alloc ?_ ?_ _ | with_reducible refine Below.drew ?_ | with_reducible refine below_drewN ?_ _ | omega | (simp; done) | (simp; omega)))) hb2; obtain ⟨hc2, hf2⟩ := bcell hb2; have hs2 := hb2.size; (try simp at hs2); have hl0 : w.heap.size < w2.heap.size := (by omega); have hl1 : w.heap.size + 1 < w2.heap.size := (by omega))
  exact bodyPost_ret (v := .agg #[.int .u64 n, .iface 198 (.int .i64 4)]) (by simp [results, Tryz.results92, go_sem, hc2, hf2, hl0, hl1]) rfl ⟨_, _, rfl, by unfold RSV; exact ⟨rfl, rfl, by omega, hn, hn1⟩, (by repeat' (first | with_reducible assumption | with_reducible exact Below.refl _ _ | with_reducible refine Below.setCell ?_ ?_ _ | with_reducible refine Below.alloc ?_ ?_ _ | with_reducible refine Below.drew ?_ | with_reducible refine below_drewN ?_ _ | omega | (simp; done) | (simp; omega)))⟩

set_option maxRecDepth 100000 in
set_option maxHeartbeats 400000 in
theorem of_dur (hn : 0 ≤ n) (hn1 : n ≤ 18446744073709551615) : Calls Tryz.prog 92 #[.agg #[.int .i64 2, .int .u64 n, .string s, .int .i64 t.sec, .int .i64 t.nsec, .int .i64 t.off, .slice A len cap], .pointer c] w (ValPost (.num 2 n) w) := by
  unfold ValPost
  go_enter Tryz.func92, Tryz.ntmps92
  go_wp2_with (go_at_call 124; refine (c_dur _ _).mono ?_; rintro e w2 ⟨rfl, hb2⟩; rw [wrap_back hn hn1]; have hB2 := keeps_below (show Below w.heap.size w _ from (by repeat' (first | with_reducible assumption | with_reducible exact Below.refl _ _ | with_reducible refine Below.setCell ?_ ?_ _ | with_reducible refine Below.alloc ?_ ?_ _ | with_reducible refine Below.drew ?_ | with_reducible refine below_drewN ?_ _ | omega | (simp; done) | (simp; omega)))) hb2; obtain ⟨hc2, hf2⟩ := bcell hb2; have hs2 := hb2.size; (try simp at hs2); have hl0 : w.heap.size < w2.heap.size := (by omega); have hl1 : w.heap.size + 1 < w2.heap.size := (by omega))
  exact bodyPost_ret (v := .agg #[.int .u64 n, .iface 198 (.int .i64 2)]) (by simp [results, Tryz.results92, go_sem, hc2, hf2, hl0, hl1]) rfl ⟨_, _, rfl, by unfold RSV; exact ⟨rfl, rfl, by omega, hn, hn1⟩, (by repeat' (first | with_reducible assumption | with_reducible exact Below.refl _ _ | with_reducible refine Below.setCell ?_ ?_ _ | with_reducible refine Below.alloc ?_ ?_ _ | with_reducible refine Below.drew ?_ | with_reducible refine below_drewN ?_ _ | omega | (simp; done) | (simp; omega)))⟩

set_option maxRecDepth 100000 in
set_option maxHeartbeats 400000 in
theorem of_float (hn : 0 ≤ n) (hn1 : n ≤ 18446744073709551615) : Calls Tryz.prog 92 #[.agg #[.int .i64 3, .int .u64 n, .string s, .int .i64 t.sec, .int .i64 t.nsec, .int .i64 t.off, .slice A len cap], .pointer c] w (ValPost (.num 3 n) w) := by
  unfold ValPost
  have h1 := frombits_run
  go_enter Tryz.func92, Tryz.ntmps92
  go_wp2_with (go_at_call 125; refine (c_float _ _).mono ?_; rintro e w2 ⟨rfl, hb2⟩; rw [Int.toNat_of_nonneg hn]; have hB2 := keeps_below (show Below w.heap.size w _ from (by repeat' (first | with_reducible assumption | with_reducible exact Below.refl _ _ | with_reducible refine Below.setCell ?_ ?_ _ | with_reducible refine Below.alloc ?_ ?_ _ | with_reducible refine Below.drew ?_ | with_reducible refine below_drewN ?_ _ | omega | (simp; done) | (simp; omega)))) hb2; obtain ⟨hc2, hf2⟩ := bcell hb2; have hs2 := hb2.size; (try simp at hs2); have hl0 : w.heap.size < w2.heap.size := (by omega); have hl1 : w.heap.size + 1 < w2.heap.size := (by omega))
  exact bodyPost_ret (v := .agg #[.int .u64 n, .iface 198 (.int .i64 3)]) (by simp [results, Tryz.results92, go_sem, hc2, hf2, hl0, hl1]) rfl ⟨_, _, rfl, by unfold RSV; exact ⟨rfl, rfl, by omega, hn, hn1⟩, (by repeat' (first | with_reducible assumption | with_reducible exact Below.refl _ _ | with_reducible refine Below.setCell ?_ ?_ _ | with_reducible refine Below.alloc ?_ ?_ _ | with_reducible refine Below.drew ?_ | with_reducible refine below_drewN ?_ _ | omega | (simp; done) | (simp; omega)))⟩

set_option maxRecDepth 100000 in
set_option maxHeartbeats 400000 in
theorem of_time : Calls Tryz.prog 92 #[.agg #[.int .i64 6, .int .u64 n, .string s, .int .i64 t.sec, .int .i64 t.nsec, .int .i64 t.off, .slice A len cap], .pointer c] w (ValPost (.time t) w) := by
  unfold ValPost
  go_enter Tryz.func92, Tryz.ntmps92
  go_wp2_with (first
    | (go_at_call 63; refine (c_timeOf t _).mono ?_; rintro e w2 ⟨rfl, hb2⟩; have hB2 := keeps_below (show Below w.heap.size w _ from (by repeat' (first | with_reducible assumption | with_reducible exact Below.refl _ _ | with_reducible refine Below.setCell ?_ ?_ _ | with_reducible refine Below.alloc ?_ ?_ _ | with_reducible refine Below.drew ?_ | with_reducible refine below_drewN ?_ _ | omega | (simp; done) | (simp; omega)))) hb2; obtain ⟨hc2, hf2⟩ := bcell hb2; have hs2 := hb2.size; (try simp at hs2); have hl0_2 : w.heap.size < w2.heap.size := (by omega); have hl1_2 : w.heap.size + 1 < w2.heap.size := (by omega))
    | (go_at_call 129; refine (c_time t.sec t.nsec t.off (zone t) _).mono ?_; rintro e w3 ⟨rfl, hb3⟩; have hB3 := keeps_below (show Below w.heap.size w _ from (by repeat' (first | with_reducible assumption | with_reducible exact Below.refl _ _ | with_reducible refine Below.setCell ?_ ?_ _ | with_reducible refine Below.alloc ?_ ?_ _ | with_reducible refine Below.drew ?_ | with_reducible refine below_drewN ?_ _ | omega | (simp; done) | (simp; omega)))) hb3; obtain ⟨hc3, hf3⟩ := bcell hb3; have hs3 := hb3.size; (try simp at hs3); have hl0_3 : w.heap.size < w3.heap.size := (by omega); have hl1_3 : w.heap.size + 1 < w3.heap.size := (by omega)))
  exact bodyPost_ret (v := .agg #[.int .u64 0, .iface 243 (.agg #[.int .i64 t.sec, .int .i64 t.nsec, .int .i64 t.off, .string (zone t)])]) (by simp [results, Tryz.results92, go_sem, hc2, hf2, hl0_2, hl1_2, hc3, hf3, hl0_3, hl1_3]) rfl ⟨_, _, rfl, by unfold RSV; exact ⟨rfl, rfl⟩, (by repeat' (first | with_reducible assumption | with_reducible exact Below.refl _ _ | with_reducible refine Below.setCell ?_ ?_ _ | with_reducible refine Below.alloc ?_ ?_ _ | with_reducible refine Below.drew ?_ | with_reducible refine below_drewN ?_ _ | omega | (simp; done) | (simp; omega)))⟩

set_option maxRecDepth 100000 in
set_option maxHeartbeats 400000 in
theorem of_bool (hn : 0 ≤ n) (hn1 : n ≤ 18446744073709551615) : Calls Tryz.prog 92 #[.agg #[.int .i64 1, .int .u64 n, .string s, .int .i64 t.sec, .int .i64 t.nsec, .int .i64 t.off, .slice A len cap], .pointer c] w (ValPost (.num 1 (n % 2)) w) := by
  unfold ValPost
  have hbit := bit_one hn hn1
  have h2 : n % 2 = 0 ∨ n % 2 = 1 := by omega
  rcases h2 with h2 | h2
  · have hb : (bits BinOp.and IntKind.u64 n 1 == 1) = false := by rw [hbit, h2]; rfl
    rw [h2]
    go_enter Tryz.func92, Tryz.ntmps92
    go_wp2_with (go_at_call 123; refine (c_bool_f _).mono ?_; rintro e w2 ⟨rfl, hb2⟩; have hB2 := keeps_below (show Below w.heap.size w _ from (by repeat' (first | with_reducible assumption | with_reducible exact Below.refl _ _ | with_reducible refine Below.setCell ?_ ?_ _ | with_reducible refine Below.alloc ?_ ?_ _ | with_reducible refine Below.drew ?_ | with_reducible refine below_drewN ?_ _ | omega | (simp; done) | (simp; omega)))) hb2; obtain ⟨hc2, hf2⟩ := bcell hb2; have hs2 := hb2.size; simp at hs2; have hl0 : w.heap.size < w2.heap.size := (by omega); have hl1 : w.heap.size + 1 < w2.heap.size := (by omega))
    exact bodyPost_ret (v := .agg #[.int .u64 0, .iface 198 (.int .i64 1)]) (by simp [results, Tryz.results92, go_sem, hc2, hf2, hl0, hl1]) rfl ⟨_, _, rfl, by unfold RSV; exact ⟨rfl, rfl, by omega, by omega, by omega⟩, (by repeat' (first | with_reducible assumption | with_reducible exact Below.refl _ _ | with_reducible refine Below.setCell ?_ ?_ _ | with_reducible refine Below.alloc ?_ ?_ _ | with_reducible refine Below.drew ?_ | with_reducible refine below_drewN ?_ _ | omega | (simp; done) | (simp; omega)))⟩
  · have hb : (bits BinOp.and IntKind.u64 n 1 == 1) = true := by rw [hbit, h2]; rfl
    rw [h2]
    go_enter Tryz.func92, Tryz.ntmps92
    go_wp2_with (go_at_call 123; refine (c_bool_t _).mono ?_; rintro e w2 ⟨rfl, hb2⟩; have hB2 := keeps_below (show Below w.heap.size w _ from (by repeat' (first | with_reducible assumption | with_reducible exact Below.refl _ _ | with_reducible refine Below.setCell ?_ ?_ _ | with_reducible refine Below.alloc ?_ ?_ _ | with_reducible refine Below.drew ?_ | with_reducible refine below_drewN ?_ _ | omega | (simp; done) | (simp; omega)))) hb2; obtain ⟨hc2, hf2⟩ := bcell hb2; have hs2 := hb2.size; simp at hs2; have hl0 : w.heap.size < w2.heap.size := (by omega); have hl1 : w.heap.size + 1 < w2.heap.size := (by omega))
    exact bodyPost_ret (v := .agg #[.int .u64 1, .iface 198 (.int .i64 1)]) (by simp [results, Tryz.results92, go_sem, hc2, hf2, hl0, hl1]) rfl ⟨_, _, rfl, by unfold RSV; exact ⟨rfl, rfl, by omega, by omega, by omega⟩, (by repeat' (first | with_reducible assumption | with_reducible exact Below.refl _ _ | with_reducible refine Below.setCell ?_ ?_ _ | with_reducible refine Below.alloc ?_ ?_ _ | with_reducible refine Below.drew ?_ | with_reducible refine below_drewN ?_ _ | omega | (simp; done) | (simp; omega)))⟩

end

end Go.Proofs.YtihhgnbgejjijaaGreatDoor.Va

/- The values of package slog that Vals stand for (impl.valueOf): groups, values that give others, values of any type, and all kinds. -/
namespace Go.Proofs.YtihhgnbgejjijaaGreatDoor.Va
set_option linter.unusedVariables false
set_option linter.unusedSimpArgs false
open Go Go.RowKit

theorem rany_any {P : Nat → Prop} {w : World} {g : GAny} {y : Value} (h : RAny P w g y) : y = .nilIface ∨ ∃ t u, y = .iface t u :=
  rsv_any (P := P) (w := w) (d := .any g) (x := .int .u64 0) (y := y) (by unfold RSV; exact ⟨rfl, h⟩)

section
variable (c : Option Addr) (n : Int) (s : ByteArray) (t : GTime) (w : World) (A : Option Addr) (len cap : Nat)

set_option maxRecDepth 100000 in
set_option maxHeartbeats 400000 in
theorem of_throws (hs : ¬ s = ByteArray.empty) : Calls Tryz.prog 92 #[.agg #[.int .i64 9, .int .u64 n, .string s, .int .i64 t.sec, .int .i64 t.nsec, .int .i64 t.off, .slice A len cap], .pointer c] w (ValPost (.throws s c) w) := by
  unfold ValPost
  have hsl := toList_ne hs
  go_enter Tryz.func92, Tryz.ntmps92
  go_wp2_with (go_at_call 100; refine (anyValue_throws s c _).mono ?_; rintro e w2 ⟨rfl, hb2⟩; have hB2 := keeps_below (show Below w.heap.size w _ from (by repeat' (first | with_reducible assumption | with_reducible exact Below.refl _ _ | with_reducible refine Below.setCell ?_ ?_ _ | with_reducible refine Below.alloc ?_ ?_ _ | with_reducible refine Below.drew ?_ | with_reducible refine below_drewN ?_ _ | omega | (simp; done) | (simp; omega)))) hb2; obtain ⟨hc2, hf2⟩ := bcell hb2; have hs2 := hb2.size; (try simp at hs2); have hl0_2 : w.heap.size < w2.heap.size := (by omega); have hl1_2 : w.heap.size + 1 < w2.heap.size := (by omega))
  exact bodyPost_ret (v := .agg #[.int .u64 0, .iface 194 (.agg #[.string s, .pointer c])]) (by simp [results, Tryz.results92, go_sem, hc2, hf2, hl0_2, hl1_2]) rfl ⟨_, _, rfl, by unfold RSV; exact ⟨rfl, rfl⟩, (by repeat' (first | with_reducible assumption | with_reducible exact Below.refl _ _ | with_reducible refine Below.setCell ?_ ?_ _ | with_reducible refine Below.alloc ?_ ?_ _ | with_reducible refine Below.drew ?_ | with_reducible refine below_drewN ?_ _ | omega | (simp; done) | (simp; omega)))⟩

set_option maxRecDepth 100000 in
set_option maxHeartbeats 400000 in
theorem of_any (k : Int) (hk : ¬ k = 1 ∧ ¬ k = 2 ∧ ¬ k = 3 ∧ ¬ k = 4 ∧ ¬ k = 5 ∧ ¬ k = 6 ∧ ¬ k = 7 ∧ ¬ k = 8 ∧ ¬ k = 9) (l : GAttrs) (hl : RS w l A len) : Calls Tryz.prog 92 #[.agg #[.int .i64 k, .int .u64 n, .string s, .int .i64 t.sec, .int .i64 t.nsec, .int .i64 t.off, .slice A len cap], .pointer c] w (ValPost (.any (anyOf n s t l)) w) := by
  unfold ValPost
  have Hl := Lib.hid hl
  obtain ⟨q1, q2, q3, q4, q5, q6, q7, q8, q9⟩ := hk
  clear hl
  go_enter Tryz.func92, Tryz.ntmps92
  go_wp2_with (first
    | (go_at_call 132; refine (anyOf_any k n s t l _ A len cap (Hl.out.keep (keeps_of_below (by repeat' (first | with_reducible assumption | with_reducible exact Below.refl _ _ | with_reducible refine Below.setCell ?_ ?_ _ | with_reducible refine Below.alloc ?_ ?_ _ | with_reducible refine Below.drew ?_ | with_reducible refine below_drewN ?_ _ | omega | (simp; done) | (simp; omega)))))).mono ?_; rintro e w2 ⟨v2, rfl, hr2, hb2⟩; have HR2 := Lib.hid hr2; clear hr2; have hB2 := keeps_below (show Below w.heap.size w _ from (by repeat' (first | with_reducible assumption | with_reducible exact Below.refl _ _ | with_reducible refine Below.setCell ?_ ?_ _ | with_reducible refine Below.alloc ?_ ?_ _ | with_reducible refine Below.drew ?_ | with_reducible refine below_drewN ?_ _ | omega | (simp; done) | (simp; omega)))) hb2; obtain ⟨hc2, hf2⟩ := bcell hb2; have hs2 := hb2.size; (try simp at hs2); have hl0_2 : w.heap.size < w2.heap.size := (by omega); have hl1_2 : w.heap.size + 1 < w2.heap.size := (by omega))
    | (go_at_call 100; refine (anyValue_any (anyOf n s t l) _ _ HR2.out).mono ?_; rintro e w3 ⟨v3, rfl, hr3, hb3⟩; have HR3 := Lib.hid hr3; have hsh := rany_any hr3; clear hr3; have hB3 := keeps_below (show Below w.heap.size w _ from (by repeat' (first | with_reducible assumption | with_reducible exact Below.refl _ _ | with_reducible refine Below.setCell ?_ ?_ _ | with_reducible refine Below.alloc ?_ ?_ _ | with_reducible refine Below.drew ?_ | with_reducible refine below_drewN ?_ _ | omega | (simp; done) | (simp; omega)))) hb3; obtain ⟨hc3, hf3⟩ := bcell hb3; have hs3 := hb3.size; (try simp at hs3); have hl0_3 : w.heap.size < w3.heap.size := (by omega); have hl1_3 : w.heap.size + 1 < w3.heap.size := (by omega); rcases hsh with rfl | ⟨ty, u, rfl⟩))
  · exact bodyPost_ret (v := .agg #[.int .u64 0, .nilIface]) (by simp [results, Tryz.results92, go_sem, hc2, hf2, hl0_2, hl1_2, hc3, hf3, hl0_3, hl1_3]) rfl ⟨_, _, rfl, by unfold RSV; exact ⟨rfl, HR3.out.turn (by repeat' (first | with_reducible assumption | with_reducible exact KeepsOn.refl _ _ | with_reducible refine KeepsOn.setCell ?_ ?_ _ | with_reducible refine KeepsOn.alloc ?_ _ | with_reducible refine KeepsOn.drew ?_ | (intro b hb; simp at hb ⊢; omega) | (rintro b ⟨_, hb⟩; simp at hb ⊢; omega) | (rintro b ⟨_, hb⟩; omega))) (fun b hb _ => by simp at hb ⊢; omega)⟩, (by repeat' (first | with_reducible assumption | with_reducible exact Below.refl _ _ | with_reducible refine Below.setCell ?_ ?_ _ | with_reducible refine Below.alloc ?_ ?_ _ | with_reducible refine Below.drew ?_ | with_reducible refine below_drewN ?_ _ | omega | (simp; done) | (simp; omega)))⟩
  · exact bodyPost_ret (v := .agg #[.int .u64 0, .iface ty u]) (by simp [results, Tryz.results92, go_sem, hc2, hf2, hl0_2, hl1_2, hc3, hf3, hl0_3, hl1_3]) rfl ⟨_, _, rfl, by unfold RSV; exact ⟨rfl, HR3.out.turn (by repeat' (first | with_reducible assumption | with_reducible exact KeepsOn.refl _ _ | with_reducible refine KeepsOn.setCell ?_ ?_ _ | with_reducible refine KeepsOn.alloc ?_ _ | with_reducible refine KeepsOn.drew ?_ | (intro b hb; simp at hb ⊢; omega) | (rintro b ⟨_, hb⟩; simp at hb ⊢; omega) | (rintro b ⟨_, hb⟩; omega))) (fun b hb _ => by simp at hb ⊢; omega)⟩, (by repeat' (first | with_reducible assumption | with_reducible exact Below.refl _ _ | with_reducible refine Below.setCell ?_ ?_ _ | with_reducible refine Below.alloc ?_ ?_ _ | with_reducible refine Below.drew ?_ | with_reducible refine below_drewN ?_ _ | omega | (simp; done) | (simp; omega)))⟩

end

end Go.Proofs.YtihhgnbgejjijaaGreatDoor.Va

/- The values of package slog that Vals stand for (impl.valueOf): groups, values that give others, and all kinds. -/
namespace Go.Proofs.YtihhgnbgejjijaaGreatDoor.Va
set_option linter.unusedVariables false
set_option linter.unusedSimpArgs false
open Go Go.RowKit

/-- slog.GroupValue. -/
theorem groupValue_any {P : Nat → Prop} (l : SAttrs) (w : World) (A : Option Addr) (len cap : Nat) (hl : RSS P w l A len) (hlen : len ≤ 300000) (hP : ∀ b, w.heap.size ≤ b → P b) :
    Calls Tryz.prog 131 #[.slice A len cap] w (GroupPost P l.full w) := by
  by_cases he : l.empties = 0
  · exact groupValue_none l w A len cap hl hlen he
  · exact groupValue_some l w A len cap hl hlen (by omega) hP

theorem rsv_group {P : Nat → Prop} {w : World} {l : SAttrs} {x y : Value} (h : RSV P w (.group l) x y) : ∃ (A : Option Addr) (len cap : Nat), x = .int .u64 len ∧ y = .iface 245 (.slice A len cap) := by
  unfold RSV at h
  obtain ⟨A, len, cap, e1, e2, _⟩ := h
  exact ⟨A, len, cap, e1, e2⟩

theorem slen_attrsOf (c : Option Addr) : ∀ l : GAttrs, (attrsOf c l).len = l.len
  | .nil => by rw [attrsOf_nil]; rfl
  | .cons k v r => by rw [attrsOf_cons]; simp only [SAttrs.len, GAttrs.len, slen_attrsOf c r]

section
variable (c : Option Addr) (n : Int) (s : ByteArray) (t : GTime) (w : World) (A : Option Addr) (len cap : Nat)

set_option maxRecDepth 100000 in
set_option maxHeartbeats 400000 in
theorem of_group (l : GAttrs) (hl : RS w l A len) (hsz : l.size ≤ 300000) (hwf : l.wf) (ih : ValL c l) : Calls Tryz.prog 92 #[.agg #[.int .i64 8, .int .u64 n, .string s, .int .i64 t.sec, .int .i64 t.nsec, .int .i64 t.off, .slice A len cap], .pointer c] w (ValPost (.group (attrsOf c l).full) w) := by
  unfold ValPost
  have hll := slen_attrsOf c l
  have hls := len_le_size l
  have Hl := Lib.hid hl
  have Hs := Lib.hid (And.intro hsz hwf)
  have Hih := Lib.hid ih
  have Hll := Lib.hid (And.intro hll hls)
  clear hl hsz hwf ih hll hls
  go_enter Tryz.func92, Tryz.ntmps92
  go_wp2_with (first
    | (go_at_call 67; refine (Hih.out _ A len cap Hs.out.1 Hs.out.2 (Hl.out.keep (keeps_of_below (by repeat' (first | with_reducible assumption | with_reducible exact Below.refl _ _ | with_reducible refine Below.setCell ?_ ?_ _ | with_reducible refine Below.alloc ?_ ?_ _ | with_reducible refine Below.drew ?_ | with_reducible refine below_drewN ?_ _ | omega | (simp; done) | (simp; omega)))))).mono ?_; rintro e w2 ⟨A2, len2, cap2, rfl, hr2, hb2⟩; have HR2 := Lib.hid hr2; clear hr2; have hB2 := keeps_below (show Below w.heap.size w _ from (by repeat' (first | with_reducible assumption | with_reducible exact Below.refl _ _ | with_reducible refine Below.setCell ?_ ?_ _ | with_reducible refine Below.alloc ?_ ?_ _ | with_reducible refine Below.drew ?_ | with_reducible refine below_drewN ?_ _ | omega | (simp; done) | (simp; omega)))) hb2; obtain ⟨hc2, hf2⟩ := bcell hb2; have hs2 := hb2.size; (try simp at hs2); have hl0_2 : w.heap.size < w2.heap.size := (by omega); have hl1_2 : w.heap.size + 1 < w2.heap.size := (by omega))
    | (go_at_call 131; refine (groupValue_any (P := fun b => w.heap.size + 1 + 1 ≤ b) (attrsOf c l) _ A2 len2 cap2 (HR2.out.turn (KeepsOn.refl _ _) (fun b hb _ => by simp at hb; omega)) (by have h1 := HR2.out.1; have h2 := Hll.out; have h3 := Hs.out.1; omega) (fun b hb => by omega)).mono ?_; rintro e w3 ⟨x3, y3, rfl, hr3, hb3⟩; have HR3 := Lib.hid hr3; have hsh := rsv_group hr3; clear hr3; have hB3 := keeps_below (show Below w.heap.size w _ from (by repeat' (first | with_reducible assumption | with_reducible exact Below.refl _ _ | with_reducible refine Below.setCell ?_ ?_ _ | with_reducible refine Below.alloc ?_ ?_ _ | with_reducible refine Below.drew ?_ | with_reducible refine below_drewN ?_ _ | omega | (simp; done) | (simp; omega)))) hb3; obtain ⟨hc3, hf3⟩ := bcell hb3; have hs3 := hb3.size; (try simp at hs3); have hl0_3 : w.heap.size < w3.heap.size := (by omega); have hl1_3 : w.heap.size + 1 < w3.heap.size := (by omega); obtain ⟨A3, len3, cap3, rfl, rfl⟩ := hsh))
  exact bodyPost_ret (v := .agg #[.int .u64 len3, .iface 245 (.slice A3 len3 cap3)]) (by simp [results, Tryz.results92, go_sem, hc2, hf2, hl0_2, hl1_2, hc3, hf3, hl0_3, hl1_3]) rfl ⟨_, _, rfl, HR3.out.turn (by repeat' (first | with_reducible assumption | with_reducible exact KeepsOn.refl _ _ | with_reducible refine KeepsOn.setCell ?_ ?_ _ | with_reducible refine KeepsOn.alloc ?_ _ | with_reducible refine KeepsOn.drew ?_ | (intro b hb; simp at hb ⊢; omega) | (rintro b ⟨_, hb⟩; simp at hb ⊢; omega) | (rintro b ⟨_, hb⟩; omega))) (fun b hb _ => by omega), (by repeat' (first | with_reducible assumption | with_reducible exact Below.refl _ _ | with_reducible refine Below.setCell ?_ ?_ _ | with_reducible refine Below.alloc ?_ ?_ _ | with_reducible refine Below.drew ?_ | with_reducible refine below_drewN ?_ _ | omega | (simp; done) | (simp; omega)))⟩

theorem ko_chain {P : Nat → Prop} {a b c : World} (h : KeepsOn P a b) (hb : Below b.heap.size b c) : KeepsOn P a c := h.trans (keepsOn_of_below hb P)

/-- The parts of a valuer's walk behind the value at its end. -/
theorem rsv_shape {P : Nat → Prop} {w : World} {d : SVal} {x y : Value} (h : RSV P w d x y) : ∃ i, x = .int .u64 i ∧ (y = .nilIface ∨ ∃ t u, y = .iface t u) := by
  obtain ⟨i, rfl⟩ := rsv_num h
  exact ⟨i, rfl, rsv_any h⟩

set_option maxRecDepth 100000 in
set_option maxHeartbeats 400000 in
theorem of_valuer_nil (A : Option Addr) (cap : Nat) : Calls Tryz.prog 92 #[.agg #[.int .i64 9, .int .u64 n, .string ByteArray.empty, .int .i64 t.sec, .int .i64 t.nsec, .int .i64 t.off, .slice A 0 cap], .pointer c] w (ValPost (.valuer n (.any .nil) c) w) := by
  unfold ValPost
  go_enter Tryz.func92, Tryz.ntmps92
  go_wp2_with (first
    | (go_at_call 100; refine (anyValue_valuer n (.int .u64 0) .nilIface c _).mono ?_; rintro e w3 ⟨rfl, hb3⟩; have hB3 := keeps_below (show Below w.heap.size w _ from (by repeat' (first | with_reducible assumption | with_reducible exact Below.refl _ _ | with_reducible refine Below.setCell ?_ ?_ _ | with_reducible refine Below.alloc ?_ ?_ _ | with_reducible refine Below.drew ?_ | with_reducible refine below_drewN ?_ _ | omega | (simp; done) | (simp; omega)))) hb3; obtain ⟨hc3, hf3⟩ := bcell hb3; have hs3 := hb3.size; (try simp at hs3); have hl0_3 : w.heap.size < w3.heap.size := (by omega); have hl1_3 : w.heap.size + 1 < w3.heap.size := (by omega)))
  exact bodyPost_ret (v := .agg #[.int .u64 0, .iface 196 (.agg #[.int .u64 n, .int .u64 0, .nilIface, .pointer c])]) (by simp [results, Tryz.results92, go_sem, hc3, hf3, hl0_3, hl1_3]) rfl ⟨_, _, rfl, by unfold RSV; exact ⟨_, _, rfl, rfl, by unfold RSV; exact ⟨rfl, rfl⟩⟩, (by repeat' (first | with_reducible assumption | with_reducible exact Below.refl _ _ | with_reducible refine Below.setCell ?_ ?_ _ | with_reducible refine Below.alloc ?_ ?_ _ | with_reducible refine Below.drew ?_ | with_reducible refine below_drewN ?_ _ | omega | (simp; done) | (simp; omega)))⟩

set_option maxRecDepth 100000 in
set_option maxHeartbeats 400000 in
theorem of_valuer_cons (key : ByteArray) (v : GVal) (r : GAttrs) (b o len cap : Nat) (hr : RAs w (.cons key v r) b o) (hlen : 0 < len) (hsz : v.size ≤ 300000) (hwf : v.wf) (ih : ValV c v) : Calls Tryz.prog 92 #[.agg #[.int .i64 9, .int .u64 n, .string ByteArray.empty, .int .i64 t.sec, .int .i64 t.nsec, .int .i64 t.off, .slice (some ⟨b, o, none⟩) len cap], .pointer c] w (ValPost (.valuer n (valueOf c v) c) w) := by
  unfold ValPost
  have hlt : (0 : Int) < (len : Int) := by omega
  unfold RAs at hr
  obtain ⟨hkey, hv, _⟩ := hr
  have hbb : b < w.heap.size := World.block_lt_of_cell? w _ hkey
  have hbb1 : b < w.heap.size + 1 := by omega
  have hbb2 : b < w.heap.size + 1 + 1 := by omega
  have hbn : b ≠ w.heap.size := by omega
  have hbn1 : b ≠ w.heap.size + 1 := by omega
  have hbn2 : b ≠ w.heap.size + 1 + 1 := by omega
  obtain ⟨vk, vn, vs, vt, vl⟩ := v
  unfold RVal at hv
  obtain ⟨c0, c1, c2, c3, c4, c5, Av, lenv, capv, c6, hlenv, hAv⟩ := hv
  have HSv := Lib.hid (show RS w vl Av lenv from ⟨hlenv, hAv⟩)
  have Hs := Lib.hid (And.intro hsz hwf)
  have Hih := Lib.hid ih
  clear hkey hlenv hAv hsz hwf ih
  go_enter Tryz.func92, Tryz.ntmps92
  go_wp2_with (first
    | (go_at_call 92; refine (Hih.out _ _ _ _ Hs.out.1 Hs.out.2 (HSv.out.keep (keeps_of_below (by repeat' (first | with_reducible assumption | with_reducible exact Below.refl _ _ | with_reducible refine Below.setCell ?_ ?_ _ | with_reducible refine Below.alloc ?_ ?_ _ | with_reducible refine Below.drew ?_ | with_reducible refine below_drewN ?_ _ | omega | (simp; done) | (simp; omega)))))).mono ?_; rintro e w2 ⟨x2, y2, rfl, hr2, hb2⟩; have HR2 := Lib.hid hr2; have hsh := rsv_shape hr2; clear hr2; have hB2 := keeps_below (show Below w.heap.size w _ from (by repeat' (first | with_reducible assumption | with_reducible exact Below.refl _ _ | with_reducible refine Below.setCell ?_ ?_ _ | with_reducible refine Below.alloc ?_ ?_ _ | with_reducible refine Below.drew ?_ | with_reducible refine below_drewN ?_ _ | omega | (simp; done) | (simp; omega)))) hb2; obtain ⟨hc2, hf2⟩ := bcell hb2; have hs2 := hb2.size; (try simp at hs2); have hl0_2 : w.heap.size < w2.heap.size := (by omega); have hl1_2 : w.heap.size + 1 < w2.heap.size := (by omega); have hl2_2 : w.heap.size + 1 + 1 < w2.heap.size := (by omega); obtain ⟨i2, rfl, hy⟩ := hsh; rcases hy with rfl | ⟨ty, u, rfl⟩)
    | (go_at_call 100; refine (anyValue_valuer n _ _ c _).mono ?_; rintro e w3 ⟨rfl, hb3⟩; have HK3 := Lib.hid (ko_chain (P := fun b => w.heap.size + 1 + 1 + 1 ≤ b) (a := w2) (by repeat' (first | with_reducible assumption | with_reducible exact KeepsOn.refl _ _ | with_reducible refine KeepsOn.setCell ?_ ?_ _ | with_reducible refine KeepsOn.alloc ?_ _ | with_reducible refine KeepsOn.drew ?_ | (intro b hb; simp at hb ⊢; omega) | (rintro b ⟨_, hb⟩; simp at hb ⊢; omega) | (rintro b ⟨_, hb⟩; omega))) hb3); have hB3 := keeps_below (show Below w.heap.size w _ from (by repeat' (first | with_reducible assumption | with_reducible exact Below.refl _ _ | with_reducible refine Below.setCell ?_ ?_ _ | with_reducible refine Below.alloc ?_ ?_ _ | with_reducible refine Below.drew ?_ | with_reducible refine below_drewN ?_ _ | omega | (simp; done) | (simp; omega)))) hb3; obtain ⟨hc3, hf3⟩ := bcell hb3; have hs3 := hb3.size; (try simp at hs3); have hl0_3 : w.heap.size < w3.heap.size := (by omega); have hl1_3 : w.heap.size + 1 < w3.heap.size := (by omega); have hl2_3 : w.heap.size + 1 + 1 < w3.heap.size := (by omega)))
  · exact bodyPost_ret (v := .agg #[.int .u64 0, .iface 196 (.agg #[.int .u64 n, .int .u64 i2, .nilIface, .pointer c])]) (by simp [results, Tryz.results92, go_sem, hc2, hf2, hc3, hf3, hl0_2, hl1_2, hl2_2, hl0_3, hl1_3, hl2_3]) rfl ⟨_, _, rfl, by unfold RSV; exact ⟨_, _, rfl, rfl, ((HR2.out.turn (KeepsOn.refl _ _) (fun b hb _ => by simp at hb; exact hb)).turn HK3.out (fun b hb _ => hb)).turn (by repeat' (first | with_reducible assumption | with_reducible exact KeepsOn.refl _ _ | with_reducible refine KeepsOn.setCell ?_ ?_ _ | with_reducible refine KeepsOn.alloc ?_ _ | with_reducible refine KeepsOn.drew ?_ | (intro b hb; simp at hb ⊢; omega) | (rintro b ⟨_, hb⟩; simp at hb ⊢; omega) | (rintro b ⟨_, hb⟩; omega))) (fun b hb _ => by simp at hb ⊢; omega)⟩, (by repeat' (first | with_reducible assumption | with_reducible exact Below.refl _ _ | with_reducible refine Below.setCell ?_ ?_ _ | with_reducible refine Below.alloc ?_ ?_ _ | with_reducible refine Below.drew ?_ | with_reducible refine below_drewN ?_ _ | omega | (simp; done) | (simp; omega)))⟩
  · exact bodyPost_ret (v := .agg #[.int .u64 0, .iface 196 (.agg #[.int .u64 n, .int .u64 i2, .iface ty u, .pointer c])]) (by simp [results, Tryz.results92, go_sem, hc2, hf2, hc3, hf3, hl0_2, hl1_2, hl2_2, hl0_3, hl1_3, hl2_3]) rfl ⟨_, _, rfl, by unfold RSV; exact ⟨_, _, rfl, rfl, ((HR2.out.turn (KeepsOn.refl _ _) (fun b hb _ => by simp at hb; exact hb)).turn HK3.out (fun b hb _ => hb)).turn (by repeat' (first | with_reducible assumption | with_reducible exact KeepsOn.refl _ _ | with_reducible refine KeepsOn.setCell ?_ ?_ _ | with_reducible refine KeepsOn.alloc ?_ _ | with_reducible refine KeepsOn.drew ?_ | (intro b hb; simp at hb ⊢; omega) | (rintro b ⟨_, hb⟩; simp at hb ⊢; omega) | (rintro b ⟨_, hb⟩; omega))) (fun b hb _ => by simp at hb ⊢; omega)⟩, (by repeat' (first | with_reducible assumption | with_reducible exact Below.refl _ _ | with_reducible refine Below.setCell ?_ ?_ _ | with_reducible refine Below.alloc ?_ ?_ _ | with_reducible refine Below.drew ?_ | with_reducible refine below_drewN ?_ _ | omega | (simp; done) | (simp; omega)))⟩

end

theorem of_val (c : Option Addr) (d : GVal) (ihL : ValL c d.l) (ihV : ∀ v : GVal, v.size < d.size → ValV c v) : ValV c d := by
  obtain ⟨k, n, s, t, l⟩ := d
  intro w A len cap hsz hwf hl
  simp only [vVal, kind_mk, n_mk, s_mk, t_mk, l_mk] at hl ihL ⊢
  unfold GVal.wf at hwf
  obtain ⟨hk, hn, hs, ht1, ht2, ht3, hlen, hlw⟩ := hwf
  unfold valueOf
  by_cases h1 : k = 1
  · subst h1; rw [if_pos rfl]; exact of_bool _ _ _ _ _ _ _ _ hn.1 hn.2
  rw [if_neg h1]
  by_cases h2 : k = 2
  · subst h2; rw [if_pos rfl]; exact of_dur _ _ _ _ _ _ _ _ hn.1 hn.2
  rw [if_neg h2]
  by_cases h3 : k = 3
  · subst h3; rw [if_pos rfl]; exact of_float _ _ _ _ _ _ _ _ hn.1 hn.2
  rw [if_neg h3]
  by_cases h4 : k = 4
  · subst h4; rw [if_pos rfl]; exact of_int _ _ _ _ _ _ _ _ hn.1 hn.2
  rw [if_neg h4]
  by_cases h5 : k = 5
  · subst h5; rw [if_pos rfl]; exact of_str _ _ _ _ _ _ _ _ hs
  rw [if_neg h5]
  by_cases h6 : k = 6
  · subst h6; rw [if_pos rfl]; exact of_time _ _ _ _ _ _ _ _
  rw [if_neg h6]
  by_cases h7 : k = 7
  · subst h7; rw [if_pos rfl]; exact of_uint _ _ _ _ _ _ _ _ hn.1 hn.2
  rw [if_neg h7]
  have hls : l.size ≤ 300000 := by simp only [GVal.size] at hsz; omega
  by_cases h8 : k = 8
  · subst h8; rw [if_pos rfl]; exact of_group _ _ _ _ _ _ _ _ l hl hls hlw ihL
  rw [if_neg h8]
  by_cases h9 : k = 9
  · subst h9; rw [if_pos rfl]
    by_cases hse : s.size = 0
    · rw [if_pos hse]
      obtain rfl := empty_of_size hse
      cases l with
      | nil =>
        have : len = 0 := hl.1
        subst this
        have e : headOf c .nil = .any .nil := by simp only [headOf]
        rw [e]
        exact of_valuer_nil _ _ _ _ _ _
      | cons key v r =>
        have hp : 0 < len := by have := hl.1; simp only [GAttrs.len] at this; omega
        obtain ⟨b, o, rfl, hr⟩ := hl.2 hp
        have e : headOf c (.cons key v r) = valueOf c v := by simp only [headOf]
        rw [e]
        unfold GAttrs.wf at hlw
        simp only [GAttrs.size] at hls
        exact of_valuer_cons _ _ _ _ key v r b o len cap hr hp (by omega) hlw.2.1 (ihV v (by simp only [GVal.size, GAttrs.size]; omega))
    · rw [if_neg hse]
      exact of_throws _ _ _ _ _ _ _ _ (fun h => hse (by rw [h]; rfl))
  rw [if_neg h9]
  exact of_any _ _ _ _ _ _ _ _ k ⟨h1, h2, h3, h4, h5, h6, h7, h8, h9⟩ l hl

theorem of_both (c : Option Addr) : ∀ N : Nat, (∀ d : GVal, d.size ≤ N → ValV c d) ∧ (∀ l : GAttrs, l.size ≤ N → ValL c l)
  | 0 => ⟨fun d h => absurd h (by have := size_pos d; omega), fun l h => attrs_of c l (fun d hd => absurd hd (by have := size_pos d; omega))⟩
  | N + 1 => by
    have hv : ∀ d : GVal, d.size ≤ N + 1 → ValV c d := fun d h => of_val c d ((of_both c N).2 d.l (by obtain ⟨k, n, s, t, l⟩ := d; simp only [GVal.size, l_mk] at h ⊢; omega)) (fun v hv => (of_both c N).1 v (by omega))
    exact ⟨hv, fun l h => attrs_of c l (fun d hd => hv d (by omega))⟩

/-- impl.valueOf. -/
theorem valueOf_any (c : Option Addr) (d : GVal) : ValV c d := (of_both c d.size).1 d (Nat.le_refl _)
/-- impl.attrsOf. -/
theorem attrsOf_any (c : Option Addr) (l : GAttrs) : ValL c l := (of_both c l.size).2 l (Nat.le_refl _)

end Go.Proofs.YtihhgnbgejjijaaGreatDoor.Va
