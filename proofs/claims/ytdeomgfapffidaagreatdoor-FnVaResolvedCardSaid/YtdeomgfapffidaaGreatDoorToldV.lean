/- What impl.told tells of a LogValuer that gives another value; and of every value. -/
import Derived.Test.YtdeomgfapffidaaGreatDoorToldS
namespace Go.Proofs.YtdeomgfapffidaaGreatDoor.Va
set_option linter.unusedVariables false
set_option linter.unusedSimpArgs false
open Go Go.RowKit

section
variable {P : Nat → Prop} (n : Int) (v : SVal) (c : Option Addr) (w : World)

set_option maxRecDepth 100000 in
set_option maxHeartbeats 1000000 in
theorem told_valuer_of (i : Int) (y : Value) (hy : y = .nilIface ∨ ∃ t u, y = .iface t u) (hv : RSV P w v (.int .u64 i) y) (ih : ∀ wx, Keeps w wx → Calls Tryz.prog 44 #[.agg #[.int .u64 i, y]] wx (TidyPost (told v) wx)) :
    Calls Tryz.prog 44 #[.agg #[.int .u64 0, .iface 144 (.agg #[.int .u64 n, .int .u64 i, y, .pointer c])]] w (TidyPost (.mk 9 n ByteArray.empty .zero (.cons ByteArray.empty (told v) .nil)) w) := by
  unfold TidyPost
  have cK := fun wx (hk : Keeps w wx) => kind_any (P := P) (.valuer n v c) wx (.int .u64 0) (.iface 144 (.agg #[.int .u64 n, .int .u64 i, y, .pointer c])) (by unfold RSV; exact ⟨_, _, rfl, rfl, hv.keep hk⟩)
  simp only [SVal.kind] at cK
  have CK := Lib.hid cK
  have Hih := Lib.hid ih
  clear cK ih hv
  unfold TidyPost at Hih
  rcases hy with rfl | ⟨t, u, rfl⟩
  · go_enter Tryz.func44, Tryz.ntmps44
    go_wp2_with (first
      | (go_at_call 70; (with_reducible refine (CK.out _ (keeps_of_below (by repeat' (first | with_reducible assumption | with_reducible exact Below.refl _ _ | with_reducible refine Below.setCell ?_ ?_ _ | with_reducible refine Below.alloc ?_ ?_ _ | with_reducible refine Below.drew ?_ | with_reducible refine below_drewN ?_ _ | omega | (simp; done) | (simp; omega))))).mono ?_); rintro e w1 ⟨rfl, hb1⟩; have hB1 := keeps_below (show Below w.heap.size w _ from (by repeat' (first | with_reducible assumption | with_reducible exact Below.refl _ _ | with_reducible refine Below.setCell ?_ ?_ _ | with_reducible refine Below.alloc ?_ ?_ _ | with_reducible refine Below.drew ?_ | with_reducible refine below_drewN ?_ _ | omega | (simp; done) | (simp; omega)))) hb1; obtain ⟨hc1, hf1⟩ := bcell hb1; have hz1 := hb1.size; (try simp at hz1); have e10 : w.heap.size < w1.heap.size := (by omega); (try have e11 : w.heap.size + 1 < w1.heap.size := (by omega)))
      | (go_at_call 80; refine (get_LogValuer _ _ (by decide) _ _).mono ?_; rintro e w2 ⟨rfl, hb2⟩; have hB2 := keeps_below hB1 hb2; obtain ⟨hc2, hf2⟩ := bcell hb2; have e20 : w.heap.size < w2.heap.size := Nat.lt_of_lt_of_le e10 hb2.size; have e21 : w.heap.size + 1 < w2.heap.size := Nat.lt_of_lt_of_le e11 hb2.size))
    have hn1 : ¬ w.heap.size + 1 = w2.heap.size := by omega
    have hn2 : ¬ w2.heap.size = w.heap.size + 1 := by omega
    go_region_held3 (fun w' => w'.cell? ⟨w2.heap.size, 0, none⟩ = some (.int .u64 n) ∧ w'.cell? ⟨w2.heap.size, 1, none⟩ = some (.int .u64 i) ∧ w'.cell? ⟨w2.heap.size, 2, none⟩ = some .nilIface) (go_keep) (first
      | (go_at_call 44; refine (Hih.out _ (keeps_of_below (show Below w.heap.size w _ from (by repeat' (first | with_reducible assumption | with_reducible exact Below.refl _ _ | with_reducible refine Below.setCell ?_ ?_ _ | with_reducible refine Below.alloc ?_ ?_ _ | with_reducible refine Below.drew ?_ | with_reducible refine below_drewN ?_ _ | omega | (simp; done) | (simp; omega)))))).mono ?_; rintro e w3 ⟨A3, len3, cap3, rfl, hr3, hb3⟩; have hB3 := keeps_below (show Below w.heap.size w _ from (by repeat' (first | with_reducible assumption | with_reducible exact Below.refl _ _ | with_reducible refine Below.setCell ?_ ?_ _ | with_reducible refine Below.alloc ?_ ?_ _ | with_reducible refine Below.drew ?_ | with_reducible refine below_drewN ?_ _ | omega | (simp; done) | (simp; omega)))) hb3; obtain ⟨hc3, hf3⟩ := bcell hb3; have hz3 := hb3.size; (try simp at hz3); have e30 : w.heap.size < w3.heap.size := (by omega); have e31 : w.heap.size + 1 < w3.heap.size := (by omega); have e32 : w2.heap.size < w3.heap.size + 1 := (by omega); have e33 : w2.heap.size < w3.heap.size := (by omega); have hn3 : ¬ w.heap.size + 1 = w3.heap.size := (by omega); have hn4 : ¬ w2.heap.size = w3.heap.size := (by omega); have HR3 := Lib.hid hr3; clear hr3; unfold vVal))
    have hlo : New w w3.heap.size := by show w.heap.size ≤ _; omega
    go_wp2
    refine bodyPost_ret (v := vVal (.mk 9 n ByteArray.empty .zero (.cons ByteArray.empty (told v) .nil)) (some ⟨w3.heap.size, 0, none⟩) 1 1) ?_ rfl ⟨some ⟨w3.heap.size, 0, none⟩, 1, 1, rfl, ⟨rfl, fun _ => ⟨w3.heap.size, 0, rfl, hlo, ras_single (by simp) (HR3.out.turn (by repeat' (first | with_reducible assumption | with_reducible exact KeepsOn.refl _ _ | with_reducible refine KeepsOn.setCell ?_ ?_ _ | with_reducible refine KeepsOn.alloc ?_ _ | with_reducible refine KeepsOn.drew ?_ | (intro b hb; simp at hb ⊢; omega) | (rintro b ⟨_, hb⟩; simp at hb ⊢; omega) | (rintro b ⟨_, hb⟩; omega))) (fun b hb _ => by simp at hb ⊢; omega))⟩⟩, ?_⟩
    · simp [results, Tryz.results44, go_sem, hc1, hf1, e10, e11, hc2, hf2, e20, e21, Nat.lt_succ_of_lt e21, Nat.lt_succ_of_lt e20, Nat.ne_of_lt e21, Nat.ne_of_lt e20, hc3, hf3, e30, e31, e32, GVal.zero, GTime.zero]; (try rfl); all_goals (repeat' (first | rfl | apply And.intro))
    · exact (below_set7 hB3 (by omega) _ _ _ _ _ _ _).alloc (by simp; omega) _
  · go_enter Tryz.func44, Tryz.ntmps44
    go_wp2_with (first
      | (go_at_call 70; (with_reducible refine (CK.out _ (keeps_of_below (by repeat' (first | with_reducible assumption | with_reducible exact Below.refl _ _ | with_reducible refine Below.setCell ?_ ?_ _ | with_reducible refine Below.alloc ?_ ?_ _ | with_reducible refine Below.drew ?_ | with_reducible refine below_drewN ?_ _ | omega | (simp; done) | (simp; omega))))).mono ?_); rintro e w1 ⟨rfl, hb1⟩; have hB1 := keeps_below (show Below w.heap.size w _ from (by repeat' (first | with_reducible assumption | with_reducible exact Below.refl _ _ | with_reducible refine Below.setCell ?_ ?_ _ | with_reducible refine Below.alloc ?_ ?_ _ | with_reducible refine Below.drew ?_ | with_reducible refine below_drewN ?_ _ | omega | (simp; done) | (simp; omega)))) hb1; obtain ⟨hc1, hf1⟩ := bcell hb1; have hz1 := hb1.size; (try simp at hz1); have e10 : w.heap.size < w1.heap.size := (by omega); (try have e11 : w.heap.size + 1 < w1.heap.size := (by omega)))
      | (go_at_call 80; refine (get_LogValuer _ _ (by decide) _ _).mono ?_; rintro e w2 ⟨rfl, hb2⟩; have hB2 := keeps_below hB1 hb2; obtain ⟨hc2, hf2⟩ := bcell hb2; have e20 : w.heap.size < w2.heap.size := Nat.lt_of_lt_of_le e10 hb2.size; have e21 : w.heap.size + 1 < w2.heap.size := Nat.lt_of_lt_of_le e11 hb2.size))
    have hn1 : ¬ w.heap.size + 1 = w2.heap.size := by omega
    have hn2 : ¬ w2.heap.size = w.heap.size + 1 := by omega
    go_region_held3 (fun w' => w'.cell? ⟨w2.heap.size, 0, none⟩ = some (.int .u64 n) ∧ w'.cell? ⟨w2.heap.size, 1, none⟩ = some (.int .u64 i) ∧ w'.cell? ⟨w2.heap.size, 2, none⟩ = some (.iface t u)) (go_keep) (first
      | (go_at_call 44; refine (Hih.out _ (keeps_of_below (show Below w.heap.size w _ from (by repeat' (first | with_reducible assumption | with_reducible exact Below.refl _ _ | with_reducible refine Below.setCell ?_ ?_ _ | with_reducible refine Below.alloc ?_ ?_ _ | with_reducible refine Below.drew ?_ | with_reducible refine below_drewN ?_ _ | omega | (simp; done) | (simp; omega)))))).mono ?_; rintro e w3 ⟨A3, len3, cap3, rfl, hr3, hb3⟩; have hB3 := keeps_below (show Below w.heap.size w _ from (by repeat' (first | with_reducible assumption | with_reducible exact Below.refl _ _ | with_reducible refine Below.setCell ?_ ?_ _ | with_reducible refine Below.alloc ?_ ?_ _ | with_reducible refine Below.drew ?_ | with_reducible refine below_drewN ?_ _ | omega | (simp; done) | (simp; omega)))) hb3; obtain ⟨hc3, hf3⟩ := bcell hb3; have hz3 := hb3.size; (try simp at hz3); have e30 : w.heap.size < w3.heap.size := (by omega); have e31 : w.heap.size + 1 < w3.heap.size := (by omega); have e32 : w2.heap.size < w3.heap.size + 1 := (by omega); have e33 : w2.heap.size < w3.heap.size := (by omega); have hn3 : ¬ w.heap.size + 1 = w3.heap.size := (by omega); have hn4 : ¬ w2.heap.size = w3.heap.size := (by omega); have HR3 := Lib.hid hr3; clear hr3; unfold vVal))
    have hlo : New w w3.heap.size := by show w.heap.size ≤ _; omega
    go_wp2
    refine bodyPost_ret (v := vVal (.mk 9 n ByteArray.empty .zero (.cons ByteArray.empty (told v) .nil)) (some ⟨w3.heap.size, 0, none⟩) 1 1) ?_ rfl ⟨some ⟨w3.heap.size, 0, none⟩, 1, 1, rfl, ⟨rfl, fun _ => ⟨w3.heap.size, 0, rfl, hlo, ras_single (by simp) (HR3.out.turn (by repeat' (first | with_reducible assumption | with_reducible exact KeepsOn.refl _ _ | with_reducible refine KeepsOn.setCell ?_ ?_ _ | with_reducible refine KeepsOn.alloc ?_ _ | with_reducible refine KeepsOn.drew ?_ | (intro b hb; simp at hb ⊢; omega) | (rintro b ⟨_, hb⟩; simp at hb ⊢; omega) | (rintro b ⟨_, hb⟩; omega))) (fun b hb _ => by simp at hb ⊢; omega))⟩⟩, ?_⟩
    · simp [results, Tryz.results44, go_sem, hc1, hf1, e10, e11, hc2, hf2, e20, e21, Nat.lt_succ_of_lt e21, Nat.lt_succ_of_lt e20, Nat.ne_of_lt e21, Nat.ne_of_lt e20, hc3, hf3, e30, e31, e32, GVal.zero, GTime.zero]; (try rfl); all_goals (repeat' (first | rfl | apply And.intro))
    · exact (below_set7 hB3 (by omega) _ _ _ _ _ _ _).alloc (by simp; omega) _
end

theorem told_mkAny {g : GAny} {a : GVal} (h : toldAny g = a) {w : World} {vs : Array Value} (hc : Calls Tryz.prog 44 vs w (TidyPost a w)) : Calls Tryz.prog 44 vs w (TidyPost (told (.any g)) w) := by
  have e : told (.any g) = toldAny g := by simp only [told]
  rw [e, h]; exact hc

theorem told_any_all {P : Nat → Prop} (g : GAny) (w : World) (y : Value) (h : RAny P w g y) : Calls Tryz.prog 44 #[.agg #[.int .u64 0, y]] w (TidyPost (told (.any g)) w) := by
  cases g with
  | nil => obtain rfl := h; exact told_mkAny rfl (told_any_nil w)
  | err s => obtain rfl := h; exact told_mkAny rfl (told_any_err s w)
  | stringer s => obtain rfl := h; exact told_mkAny rfl (told_any_stringer s w)
  | bytes s =>
    have h' := h
    obtain ⟨A, len, cap, rfl, _⟩ := h'
    exact told_mkAny rfl (told_any_bytes s w A len cap h)
  | text s => obtain rfl := h; exact told_mkAny rfl (told_any_text s w)
  | fails s => obtain rfl := h; exact told_mkAny rfl (told_any_fails s w)
  | number n => obtain rfl := h; exact told_mkAny rfl (told_any_number n w)
  | level n => obtain rfl := h; exact told_mkAny rfl (told_any_level n w)
  | kind n => obtain rfl := h; exact told_mkAny rfl (told_any_kind n w)
  | appender s t => obtain rfl := h; exact told_mkAny rfl (told_any_appender s t w)
  | lacks s => obtain rfl := h; exact told_mkAny rfl (told_any_lacks s w)
  | panics s => obtain rfl := h; exact told_mkAny rfl (told_any_panics s w)
  | pointer => obtain rfl := h; exact told_mkAny rfl (told_any_pointer w)
  | source f s n =>
    have h' := h
    obtain ⟨b, rfl, _⟩ := h'
    exact told_mkAny rfl (told_any_source f s n w b h)
  | nosource => obtain rfl := h; exact told_mkAny rfl (told_any_nosource w)
  | both s t => obtain rfl := h; exact told_mkAny rfl (told_any_both s t w)
  | made s => exact h.elim

theorem told_cast {d : SVal} {a : GVal} (h : told d = a) {w : World} {vs : Array Value} (hc : Calls Tryz.prog 44 vs w (TidyPost a w)) : Calls Tryz.prog 44 vs w (TidyPost (told d) w) := by
  rw [h]; exact hc

theorem told_size : ∀ (N : Nat) (d : SVal), vSize d ≤ N → ToldV d
  | 0, d, hN => absurd hN (by have := vSize_pos d; omega)
  | N + 1, d, hN => by
    intro P w x y hz h
    cases d with
    | num k n =>
      unfold RSV at h
      obtain ⟨rfl, rfl, hk, h0, h1⟩ := h
      rcases hk with rfl | rfl | rfl | rfl | rfl
      · by_cases hn : n = 1
        · subst hn; exact told_cast (by simp [told]) (told_b1 w)
        · exact told_cast (by simp [told, hn]) (told_b0 n w h0 h1 hn)
      · exact told_cast (by simp [told]) (told_dur n w h0 h1)
      · exact told_cast (by simp [told]) (told_float n w h0 h1)
      · exact told_cast (by simp [told]) (told_int n w h0 h1)
      · exact told_cast (by simp [told]) (told_u64 n w h0 h1)
    | str s =>
      unfold RSV at h
      obtain ⟨rfl, rfl⟩ := h
      exact told_cast (by simp [told]) (told_str s w)
    | time t =>
      unfold RSV at h
      obtain ⟨rfl, rfl⟩ := h
      exact told_cast (by simp [told]) (told_time t w)
    | group l =>
      unfold RSV at h
      obtain ⟨A, len, cap, rfl, rfl, hl⟩ := h
      simp only [vSize] at hN hz
      exact told_cast (by simp [told]) (told_group (P := P) l (attrs_told l (fun d hd => told_size N d (by omega))) (by omega) w A len cap hl)
    | any g =>
      unfold RSV at h
      obtain ⟨rfl, h⟩ := h
      exact told_any_all g w y h
    | valuer n v c =>
      unfold RSV at h
      obtain ⟨vx, vy, rfl, rfl, hv⟩ := h
      simp only [vSize] at hN hz
      obtain ⟨i, rfl, hy⟩ := rsv_shape hv
      exact told_cast (by simp [told]) (told_valuer_of (P := P) n v c w i vy hy hv (fun wx hk => told_size N v (by omega) P wx _ _ (by omega) (hv.keep hk)))
    | throws s c =>
      unfold RSV at h
      obtain ⟨rfl, rfl⟩ := h
      exact told_cast (by simp [told]) (told_throws s c w)
/-- impl.told. -/
theorem told_any (d : SVal) : ToldV d := told_size (vSize d) d (Nat.le_refl _)
/-- impl.attrsTold. -/
theorem attrsTold_any (l : SAttrs) : ToldL l := attrs_told l (fun d _ => told_any d)

end Go.Proofs.YtdeomgfapffidaaGreatDoor.Va
