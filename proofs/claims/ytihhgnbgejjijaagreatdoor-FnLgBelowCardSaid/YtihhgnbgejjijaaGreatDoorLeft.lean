/- How much is left of a number behind the values and texts of a value (spec.VaLeft, VaLeftAll, vaFine): the walks. -/
import Derived.Test.YtihhgnbgejjijaaGreatDoorMem
namespace Go.Proofs.YtihhgnbgejjijaaGreatDoor.Va
set_option linter.unusedVariables false
set_option linter.unusedSimpArgs false
open Go Go.RowKit

theorem ret_int {k : IntKind} {a b : Int} (h : a = b) : Ending.returned (.int k a) = .returned (.int k b) := by rw [h]
theorem ret_bool {a b : Bool} (h : a = b) : Ending.returned (.bool a) = .returned (.bool b) := by rw [h]

theorem timeGood_any (t : GTime) (w : World) :
    Calls Tryz.prog 74 #[.agg #[.int .i64 t.sec, .int .i64 t.nsec, .int .i64 t.off]] w fun e w' => e = .returned (.bool (timeGood t)) ∧ Below w.heap.size w w' := by
  go_enter Tryz.func74, Tryz.ntmps74
  go_wp2
  all_goals
    go_ret
    refine ⟨ret_bool ?_, (Below.refl _ _).alloc (Nat.le_refl _) _⟩
    unfold timeGood
    generalize t.off.tmod 60 = z
    rw [Bool.eq_iff_iff]
    simp
    try omega

/-- A limb at which nothing is left. -/
theorem vaLeft_no {d : GVal} {deep left : Int} (h : left - (1 + d.s.size) < 0 ∨ deep < 1 ∨ d.kind < 0 ∨ 9 < d.kind) : vaLeft d deep left = -1 := by
  obtain ⟨k, n, s, t, l⟩ := d
  simp only [GVal.kind, GVal.s] at h
  unfold vaLeft
  rw [if_pos h]

def LeftV (d : GVal) : Prop := ∀ (w : World) (deep left : Int) (A : Option Addr) (len cap : Nat), d.wf → RS w d.l A len → 0 ≤ left → left ≤ 65536 → 0 ≤ deep → deep ≤ 20 →
  Calls Tryz.prog 89 #[vVal d A len cap, .int .i64 deep, .int .i64 left] w fun e w' => e = .returned (.int .i64 (vaLeft d deep left)) ∧ Below w.heap.size w w'
def LeftL (l : GAttrs) : Prop := ∀ (w : World) (deep left : Int) (A : Option Addr) (len cap : Nat), l.wf → RS w l A len → len ≤ 140737488355328 → 0 ≤ left → left ≤ 65536 → 0 ≤ deep → deep ≤ 20 →
  Calls Tryz.prog 61 #[.slice A len cap, .int .i64 deep, .int .i64 left] w fun e w' => e = .returned (.int .i64 (vaLeftAll l deep left)) ∧ Below w.heap.size w w'

set_option maxRecDepth 100000 in
set_option maxHeartbeats 4000000 in
theorem left_val (d : GVal) (ih : LeftL d.l) : LeftV d := by
  obtain ⟨k, n, s, t, l⟩ := d
  intro w deep left A len cap hwf hl h0 h1 h2 h3
  unfold GVal.wf at hwf
  obtain ⟨hk, hn, hs, ht1, ht2, ht3, hlen, hlw⟩ := hwf
  have hl0 : len = l.len := hl.1
  simp only [vVal, kind_mk, n_mk, s_mk, t_mk, l_mk] at hl ih ⊢
  have Hl := Lib.hid hl
  have Hlw := Lib.hid hlw
  have Hl0 := Lib.hid hl0
  clear hl hlw hl0
  by_cases hneg : left - (1 + s.size) < 0
  · rw [vaLeft_no (by simp only [GVal.kind, GVal.s]; omega)]
    go_enter Tryz.func89, Tryz.ntmps89
    go_wp2_with fail
    go_ret
    exact ⟨rfl, (Below.refl _ _).alloc (Nat.le_refl _) _⟩
  · by_cases hbad : deep < 1 ∨ k < 0 ∨ 9 < k
    · rw [vaLeft_no (by simp only [GVal.kind, GVal.s]; omega)]
      go_enter Tryz.func89, Tryz.ntmps89
      go_wp2_with fail
      all_goals first | (exfalso; omega) | (go_ret; exact ⟨rfl, (Below.refl _ _).alloc (Nat.le_refl _) _⟩)
    · have hd1 : ¬ deep < 1 := by omega
      have hk1 : ¬ k < 0 := by omega
      have hk2 : ¬ 9 < k := by omega
      have hrec : vaLeft (.mk k n s t l) deep left = if k = 0 ∧ 16 ≤ n then -1 else if k = 1 ∧ 1 < n then -1 else if k = 6 ∧ timeGood t = false then -1 else if k = 9 ∧ n < 1 then -1 else vaLeftAll l (deep - 1) (left - (1 + s.size)) := by
        rw [vaLeft, if_neg (by omega)]
      rw [hrec]
      clear hrec hbad
      go_enter Tryz.func89, Tryz.ntmps89
      go_wp2_with (first
        | (go_at_call 74; refine (timeGood_any t _).mono ?_; rintro e w1 ⟨rfl, hb1⟩; have hB1 := keeps_below (show Below w.heap.size w _ from (by repeat' (first | with_reducible assumption | with_reducible exact Below.refl _ _ | with_reducible refine Below.setCell ?_ ?_ _ | with_reducible refine Below.alloc ?_ ?_ _ | with_reducible refine Below.drew ?_ | with_reducible refine below_drewN ?_ _ | omega | (simp; done) | (simp; omega)))) hb1; obtain ⟨hc1, hf1⟩ := bcell hb1)
        | (go_at_call 61; refine (ih _ _ _ _ _ _ Hlw.out (Hl.out.keep (keeps_of_below (by repeat' (first | with_reducible assumption | with_reducible exact Below.refl _ _ | with_reducible refine Below.setCell ?_ ?_ _ | with_reducible refine Below.alloc ?_ ?_ _ | with_reducible refine Below.drew ?_ | with_reducible refine below_drewN ?_ _ | omega | (simp; done) | (simp; omega))))) (by rw [Hl0.out]; exact hlen) (by omega) (by omega) (by omega) (by omega)).mono ?_; rintro e w2 ⟨rfl, hb2⟩; have hB2 := keeps_below (show Below w.heap.size w _ from (by repeat' (first | with_reducible assumption | with_reducible exact Below.refl _ _ | with_reducible refine Below.setCell ?_ ?_ _ | with_reducible refine Below.alloc ?_ ?_ _ | with_reducible refine Below.drew ?_ | with_reducible refine below_drewN ?_ _ | omega | (simp; done) | (simp; omega)))) hb2))
      all_goals
        go_ret
        refine ⟨?_, ?_⟩
        · go_tidy
          simp only [beq_iff_eq, beq_eq_false_iff_ne, ne_eq] at *
          refine ret_int ?_
          repeat' split
          all_goals first | rfl | (exfalso; omega) | (exfalso; simp_all; done)
        · first | assumption | exact (by repeat' (first | with_reducible assumption | with_reducible exact Below.refl _ _ | with_reducible refine Below.setCell ?_ ?_ _ | with_reducible refine Below.alloc ?_ ?_ _ | with_reducible refine Below.drew ?_ | with_reducible refine below_drewN ?_ _ | omega | (simp; done) | (simp; omega)))

theorem vaLeftAll_nil (deep left : Int) : vaLeftAll .nil deep left = left := by unfold vaLeftAll; rfl
theorem vaLeftAll_key {key : ByteArray} {v : GVal} {r : GAttrs} {deep left : Int} (h : left - key.size < 0) : vaLeftAll (.cons key v r) deep left = -1 := by
  unfold vaLeftAll; rw [if_pos h]
theorem vaLeftAll_val {key : ByteArray} {v : GVal} {r : GAttrs} {deep left : Int} (h : ¬ left - key.size < 0) (h2 : vaLeft v deep (left - key.size) < 0) : vaLeftAll (.cons key v r) deep left = -1 := by
  unfold vaLeftAll; rw [if_neg h, if_pos h2]
theorem vaLeftAll_on {key : ByteArray} {v : GVal} {r : GAttrs} {deep left : Int} (h : ¬ left - key.size < 0) (h2 : ¬ vaLeft v deep (left - key.size) < 0) : vaLeftAll (.cons key v r) deep left = vaLeftAll r deep (vaLeft v deep (left - key.size)) := by
  rw [vaLeftAll, if_neg h, if_neg h2]

mutual
theorem vaLeft_le : ∀ (d : GVal) (deep left : Int), 0 ≤ left → vaLeft d deep left ≤ left
  | .mk k n s t l, deep, left, h => by
    unfold vaLeft
    have h1 := vaLeftAll_le l (deep - 1) (left - (1 + s.size))
    repeat' split
    all_goals omega
theorem vaLeftAll_le : ∀ (l : GAttrs) (deep left : Int), 0 ≤ left → vaLeftAll l deep left ≤ left
  | .nil, deep, left, h => by unfold vaLeftAll; omega
  | .cons key v r, deep, left, h => by
    unfold vaLeftAll
    have h1 := vaLeft_le v deep (left - key.size)
    have h2 := vaLeftAll_le r deep (vaLeft v deep (left - key.size))
    repeat' split
    all_goals omega
end

/-- One round: what is still to come, from place o + 8 k on; the number that is left. -/
def LeftRnd (w : World) (l : GAttrs) (deep left0 : Int) (b o : Nat) (slot2 slot11 : Value) (wr : World) : Prop :=
  ∃ (k : Nat) (rest : GAttrs) (left : Int), k + rest.len = l.len ∧ slot11 = .int .i64 k ∧ slot2 = .int .i64 left ∧ 0 ≤ left ∧ left ≤ 65536 ∧ vaLeftAll l deep left0 = vaLeftAll rest deep left ∧
    RAs w rest b (o + k * 8) ∧ rest.wf ∧ rest.size ≤ l.size ∧ Below w.heap.size w wr

set_option maxRecDepth 100000 in
set_option maxHeartbeats 4000000 in
theorem left_all (N : Nat) (ih : ∀ d : GVal, d.size ≤ N → LeftV d) (l : GAttrs) (hN : l.size ≤ N) : LeftL l := by
  intro w deep left A len cap hwf hl hlen h0 h1 h2 h3
  obtain ⟨hl0, hl1⟩ := hl
  by_cases hz : len = 0
  · subst hz
    have : l = .nil := by cases l with | nil => rfl | cons => simp [GAttrs.len] at hl0
    subst this
    rw [vaLeftAll_nil]
    go_enter Tryz.func61, Tryz.ntmps61
    go_wp2
    go_loopw [2, 11] (fun a c wr => a = .int .i64 left ∧ c = .int .i64 0 ∧ wr = w) (fun _ _ _ => 0)
    case atStart => exact ⟨rfl, rfl, rfl⟩
    case round =>
      obtain ⟨rfl, rfl, rfl⟩ := hrel
      go_wp2
      go_ret
      exact ⟨rfl, Below.refl _ _⟩
  · obtain ⟨b, o, rfl, hr⟩ := hl1 (by omega)
    clear hl1
    have Hl0 := Lib.hid hl0
    clear hl0
    go_enter Tryz.func61, Tryz.ntmps61
    go_wp2
    go_loopw [2, 11] (fun a c wr => LeftRnd w l deep left b o a c wr) (fun _ c _ => len - (intOf c).toNat)
    case atStart => exact ⟨0, l, left, by omega, rfl, rfl, h0, h1, rfl, hr, hwf, Nat.le_refl _, Below.refl _ _⟩
    case round =>
      obtain ⟨k, rest, left', hk, rfl, rfl, g0, g1, hval, hrs, hrw, hrz, hB⟩ := hrel
      have hk' := Hl0.out
      cases rest with
      | nil =>
        have hke : ¬ ((k : Int) < (len : Int)) := by simp [GAttrs.len] at hk; omega
        have Hval := Lib.hid hval
        clear hval hk hk'
        go_wp2
        go_ret
        exact ⟨ret_int (by rw [Hval.out, vaLeftAll_nil]), hB⟩
      | cons key v r =>
        have hlt : k < len := by simp only [GAttrs.len] at hk; omega
        have hkk : k + 1 + r.len = l.len := by simp only [GAttrs.len] at hk; omega
        have hsz : v.size + r.size ≤ l.size := by simpa only [GAttrs.size] using hrz
        unfold RAs at hrs
        obtain ⟨hkey, hv, hr'⟩ := hrs
        unfold GAttrs.wf at hrw
        obtain ⟨hkw, hvw, hrw'⟩ := hrw
        have Hih := Lib.hid (ih v (by omega))
        have Hvw := Lib.hid hvw
        have Hrw := Lib.hid hrw'
        have Hr := Lib.hid hr'
        have Hval := Lib.hid hval
        have hle := vaLeft_le v deep (left' - key.size)
        have hv := hv.keep (keeps_of_below hB)
        have hkey := (keeps_of_below hB).cell hkey
        obtain ⟨vk, vn, vs, vt, vl⟩ := v
        unfold RVal at hv
        obtain ⟨c0, c1, c2, c3, c4, c5, A', len', cap', c6, hlen', hA'⟩ := hv
        have HS := Lib.hid (show RS wr vl A' len' from ⟨hlen', hA'⟩)
        clear hval hvw hrw' hr' hk hk' hlen' hA' hrz hr hwf ih
        by_cases hneg : left' - key.size < 0
        · have Hend := Lib.hid (Hval.out.trans (vaLeftAll_key hneg))
          clear Hval
          go_wp2
          go_ret
          exact ⟨ret_int Hend.out.symm, hB.alloc hB.size _⟩
        · have hsize := hB.size
          by_cases hneg2 : vaLeft (.mk vk vn vs vt vl) deep (left' - key.size) < 0
          · have Hend := Lib.hid (Hval.out.trans (vaLeftAll_val hneg hneg2))
            clear Hval
            go_wp2_with (go_at_call 89; refine (Hih.out _ _ _ _ _ _ Hvw.out (HS.out.keep (keeps_of_below (by repeat' (first | with_reducible assumption | with_reducible exact Below.refl _ _ | with_reducible refine Below.setCell ?_ ?_ _ | with_reducible refine Below.alloc ?_ ?_ _ | with_reducible refine Below.drew ?_ | with_reducible refine below_drewN ?_ _ | omega | (simp; done) | (simp; omega))))) (by omega) (by omega) (by omega) (by omega)).mono ?_; rintro e w2 ⟨rfl, hb2⟩; have hB2 := keeps_below (show Below w.heap.size w _ from (by repeat' (first | with_reducible assumption | with_reducible exact Below.refl _ _ | with_reducible refine Below.setCell ?_ ?_ _ | with_reducible refine Below.alloc ?_ ?_ _ | with_reducible refine Below.drew ?_ | with_reducible refine below_drewN ?_ _ | omega | (simp; done) | (simp; omega)))) hb2)
            go_ret
            exact ⟨ret_int Hend.out.symm, hB2⟩
          · have Hend := Lib.hid (Hval.out.trans (vaLeftAll_on hneg hneg2))
            clear Hval
            go_wp2_with (go_at_call 89; refine (Hih.out _ _ _ _ _ _ Hvw.out (HS.out.keep (keeps_of_below (by repeat' (first | with_reducible assumption | with_reducible exact Below.refl _ _ | with_reducible refine Below.setCell ?_ ?_ _ | with_reducible refine Below.alloc ?_ ?_ _ | with_reducible refine Below.drew ?_ | with_reducible refine below_drewN ?_ _ | omega | (simp; done) | (simp; omega))))) (by omega) (by omega) (by omega) (by omega)).mono ?_; rintro e w2 ⟨rfl, hb2⟩; have hB2 := keeps_below (show Below w.heap.size w _ from (by repeat' (first | with_reducible assumption | with_reducible exact Below.refl _ _ | with_reducible refine Below.setCell ?_ ?_ _ | with_reducible refine Below.alloc ?_ ?_ _ | with_reducible refine Below.drew ?_ | with_reducible refine below_drewN ?_ _ | omega | (simp; done) | (simp; omega)))) hb2)
            refine ⟨⟨k + 1, r, _, hkk, by push_cast; rfl, rfl, by omega, by have := hle (by omega); omega, Hend.out, ?_, Hrw.out, by omega, hB2⟩, ?_⟩
            · have := Hr.out
              rwa [show o + (k + 1) * 8 = o + k * 8 + 8 by omega]
            · simp only [intOf]; omega

theorem left_both : ∀ N : Nat, (∀ d : GVal, d.size ≤ N → LeftV d) ∧ (∀ l : GAttrs, l.size ≤ N → LeftL l)
  | 0 => ⟨fun d h => absurd h (by have := size_pos d; omega), fun l h => left_all 0 (fun d h => absurd h (by have := size_pos d; omega)) l h⟩
  | N + 1 => by
    have hv : ∀ d : GVal, d.size ≤ N + 1 → LeftV d := fun d h => left_val d ((left_both N).2 d.l (by obtain ⟨k, n, s, t, l⟩ := d; simp only [GVal.size, l_mk] at h ⊢; omega))
    exact ⟨hv, fun l h => left_all (N + 1) hv l h⟩

/-- spec.VaLeft. -/
theorem left_any (d : GVal) : LeftV d := (left_both d.size).1 d (Nat.le_refl _)
theorem leftAll_any (l : GAttrs) : LeftL l := (left_both l.size).2 l (Nat.le_refl _)

/- A row of Vals. -/
def RVs (w : World) : List GVal → Nat → Nat → Prop
  | [], _, _ => True
  | d :: r, b, o => RVal w d b o ∧ RVs w r b (o + 7)
theorem RVs.keep {w w' : World} (hk : Keeps w w') : ∀ (l : List GVal) (b o : Nat), RVs w l b o → RVs w' l b o
  | [], _, _, _ => trivial
  | _ :: r, b, o, h => ⟨h.1.keep hk, RVs.keep hk r b (o + 7) h.2⟩

/-- What is left behind a list of values. -/
def fineL : List GVal → Int → Int
  | [], left => left
  | d :: r, left => if left < 0 then left else fineL r (vaLeft d 20 left)
theorem fineL_nil (left : Int) : fineL [] left = left := rfl
theorem fineL_no {l : List GVal} {left : Int} (h : left < 0) : fineL l left = left := by
  cases l with | nil => rfl | cons d r => unfold fineL; rw [if_pos h]
theorem fineL_on {d : GVal} {r : List GVal} {left : Int} (h : ¬ left < 0) : fineL (d :: r) left = fineL r (vaLeft d 20 left) := by
  rw [fineL, if_neg h]

/-- One round. -/
def FineRnd (w : World) (l : List GVal) (b o : Nat) (slot3 slot4 : Value) (wr : World) : Prop :=
  ∃ (k : Nat) (rest : List GVal) (left : Int), k + rest.length = l.length ∧ slot4 = .int .i64 k ∧ slot3 = .int .i64 left ∧ left ≤ 65536 ∧ fineL l 65536 = fineL rest left ∧
    RVs w rest b (o + k * 7) ∧ (∀ d ∈ rest, d.wf) ∧ Below w.heap.size w wr

set_option maxRecDepth 100000 in
set_option maxHeartbeats 4000000 in
/-- laws.vaFine. -/
theorem fine_any (l : List GVal) (w : World) (b o len cap : Nat) (hlen : len = l.length) (hsmall : len ≤ 3) (hwf : ∀ d ∈ l, d.wf) (h : RVs w l b o) :
    Calls Tryz.prog 37 #[.slice (some ⟨b, o, none⟩) len cap] w fun e w' => e = .returned (.bool (decide (0 ≤ fineL l 65536))) ∧ Below w.heap.size w w' := by
  have Hl := Lib.hid hlen
  clear hlen
  go_enter Tryz.func37, Tryz.ntmps37
  go_wp2
  go_loopw [3, 4] (fun a c wr => FineRnd w l b o a c wr) (fun _ c _ => len - (intOf c).toNat)
  case atStart => exact ⟨0, l, 65536, by omega, rfl, rfl, by omega, rfl, h, hwf, Below.refl _ _⟩
  case round =>
    obtain ⟨k, rest, left, hk, rfl, rfl, g1, hval, hrs, hrw, hB⟩ := hrel
    have Hval := Lib.hid hval
    have hl := Hl.out
    have hsize := hB.size
    clear hval
    cases rest with
    | nil =>
      have hke : ¬ ((k : Int) < (len : Int)) := by simp at hk; omega
      clear hk hl
      go_wp2
      go_ret
      refine ⟨ret_bool ?_, hB⟩
      rw [Hval.out, fineL_nil]
    | cons d r =>
      have hlt : k < len := by simp only [List.length_cons] at hk; omega
      have hkk : k + 1 + r.length = l.length := by simp only [List.length_cons] at hk; omega
      clear hk hl
      by_cases hneg : left < 0
      · go_wp2
        go_ret
        refine ⟨ret_bool ?_, hB⟩
        rw [Hval.out, fineL_no hneg]
      · have Hend := Lib.hid (Hval.out.trans (fineL_on hneg))
        clear Hval
        have Hr := Lib.hid hrs.2
        have hv := hrs.1.keep (keeps_of_below hB)
        have Hdw := Lib.hid (hrw d (List.mem_cons_self ..))
        have Hrw := Lib.hid (fun x hx => hrw x (List.mem_cons_of_mem _ hx))
        have hle := vaLeft_le d 20 left
        have Hd := Lib.hid (left_any d)
        clear hrs hrw hwf h
        obtain ⟨vk, vn, vs, vt, vl⟩ := d
        unfold RVal at hv
        obtain ⟨c0, c1, c2, c3, c4, c5, A', len', cap', c6, hlen', hA'⟩ := hv
        have HS := Lib.hid (show RS wr vl A' len' from ⟨hlen', hA'⟩)
        clear hlen' hA'
        go_wp2_with (go_at_call 89; refine (Hd.out _ _ _ _ _ _ Hdw.out (HS.out.keep (keeps_of_below (by repeat' (first | with_reducible assumption | with_reducible exact Below.refl _ _ | with_reducible refine Below.setCell ?_ ?_ _ | with_reducible refine Below.alloc ?_ ?_ _ | with_reducible refine Below.drew ?_ | with_reducible refine below_drewN ?_ _ | omega | (simp; done) | (simp; omega))))) (by omega) (by omega) (by omega) (by omega)).mono ?_; rintro e w2 ⟨rfl, hb2⟩; have hB2 := keeps_below (show Below w.heap.size w _ from (by repeat' (first | with_reducible assumption | with_reducible exact Below.refl _ _ | with_reducible refine Below.setCell ?_ ?_ _ | with_reducible refine Below.alloc ?_ ?_ _ | with_reducible refine Below.drew ?_ | with_reducible refine below_drewN ?_ _ | omega | (simp; done) | (simp; omega)))) hb2)
        refine ⟨⟨k + 1, r, _, hkk, by push_cast; rfl, rfl, by have := hle (by omega); omega, Hend.out, ?_, Hrw.out, hB2⟩, ?_⟩
        · have := Hr.out
          rwa [show o + (k + 1) * 7 = o + k * 7 + 7 by omega]
        · simp only [intOf]; omega

end Go.Proofs.YtihhgnbgejjijaaGreatDoor.Va
