/- When package spec has two values be equal: groups (spec.VaEqual), and all kinds. -/
import Derived.Test.YtcgdnjigocknbaaDoorEqB
namespace Go.Proofs.YtcgdnjigocknbaaDoor.Va
set_option linter.unusedVariables false
set_option linter.unusedSimpArgs false
open Go Go.RowKit

set_option maxRecDepth 100000 in
set_option maxHeartbeats 400000 in
theorem eq_lens (n n' : Int) (s s' : ByteArray) (t t' : GTime) (w : World) (A A' : Option Addr) (len cap len' cap' : Nat) (h : len ≠ len') : Calls Tryd.prog 9 #[.agg #[.int .i64 8, .int .u64 n, .string s, .int .i64 t.sec, .int .i64 t.nsec, .int .i64 t.off, .slice A len cap], .agg #[.int .i64 8, .int .u64 n', .string s', .int .i64 t'.sec, .int .i64 t'.nsec, .int .i64 t'.off, .slice A' len' cap']] w (TwoPost (false, false) w) := by
  unfold TwoPost
  have hne : ¬ (len : Int) = (len' : Int) := by omega
  clear h
  go_enter Tryd.func9, Tryd.ntmps9
  go_wp2
  all_goals first
    | (exfalso; omega)
    | (go_ret2; exact ⟨rfl, (by repeat' (first | with_reducible assumption | with_reducible exact Below.refl _ _ | with_reducible refine Below.setCell ?_ ?_ _ | with_reducible refine Below.alloc ?_ ?_ _ | with_reducible refine Below.drew ?_ | with_reducible refine below_drewN ?_ _ | omega | (simp; done) | (simp; omega)))⟩)

/-- One round. -/
def EqRnd (w W2 : World) (l l' : GAttrs) (b o b' o' : Nat) (slot61 : Value) (wr : World) : Prop :=
  ∃ (k : Nat) (rest rest' : GAttrs), k + rest.len = l.len ∧ rest.len = rest'.len ∧ slot61 = .int .i64 k ∧ vaEqualAll l l' = vaEqualAll rest rest' ∧ RAs w rest b (o + k * 8) ∧ RAs w rest' b' (o' + k * 8) ∧
    rest.size ≤ l.size ∧ Below W2.heap.size W2 wr

theorem equalAll_key {key key' : ByteArray} {v v' : GVal} {r r' : GAttrs} (h : (attrEqual key v key' v').2 = true ∨ (attrEqual key v key' v').1 = false) : vaEqualAll (.cons key v r) (.cons key' v' r') = attrEqual key v key' v' := by
  unfold attrEqual at h ⊢
  rw [vaEqualAll]
  split <;> rename_i hk
  · rfl
  · rw [if_neg hk] at h
    rw [if_pos h]
theorem equalAll_on {key key' : ByteArray} {v v' : GVal} {r r' : GAttrs} (h1 : (attrEqual key v key' v').2 = false) (h2 : (attrEqual key v key' v').1 = true) : vaEqualAll (.cons key v r) (.cons key' v' r') = vaEqualAll r r' := by
  unfold attrEqual at h1 h2
  rw [vaEqualAll]
  split at h1
  · rename_i hk
    rw [if_pos hk] at h2
    cases h2
  · rename_i hk
    rw [if_neg hk] at h2
    rw [if_neg hk, if_neg (by simp [h1, h2])]

set_option maxRecDepth 100000 in
set_option maxHeartbeats 400000 in
theorem eq_group (n n' : Int) (s s' : ByteArray) (t t' : GTime) (l l' : GAttrs) (w : World) (A A' : Option Addr) (len cap cap' : Nat) (hl : RS w l A len) (hl' : RS w l' A' len) (hlen : len ≤ 140737488355328)
    (ih : ∀ d : GVal, d.size ≤ l.size → EqV d) : Calls Tryd.prog 9 #[.agg #[.int .i64 8, .int .u64 n, .string s, .int .i64 t.sec, .int .i64 t.nsec, .int .i64 t.off, .slice A len cap], .agg #[.int .i64 8, .int .u64 n', .string s', .int .i64 t'.sec, .int .i64 t'.nsec, .int .i64 t'.off, .slice A' len cap']] w (TwoPost (vaEqualAll l l') w) := by
  obtain ⟨hl0, hl1⟩ := hl
  obtain ⟨hl0', hl1'⟩ := hl'
  by_cases hz : len = 0
  · subst hz
    have : l = .nil := by cases l with | nil => rfl | cons => simp [GAttrs.len] at hl0
    subst this
    have he : vaEqualAll .nil l' = (true, false) := by unfold vaEqualAll; rfl
    rw [he]
    clear hl0 hl1 hl0' hl1' he ih
    unfold TwoPost
    go_enter Tryd.func9, Tryd.ntmps9
    go_wp2
    go_loopw [61] (fun a wr => a = .int .i64 0 ∧ Below w.heap.size w wr) (fun _ _ => 0)
    case atStart => exact ⟨rfl, (by repeat' (first | with_reducible assumption | with_reducible exact Below.refl _ _ | with_reducible refine Below.setCell ?_ ?_ _ | with_reducible refine Below.alloc ?_ ?_ _ | with_reducible refine Below.drew ?_ | with_reducible refine below_drewN ?_ _ | omega | (simp; done) | (simp; omega)))⟩
    case round =>
      obtain ⟨rfl, hB⟩ := hrel
      go_wp2
      go_ret2
      exact ⟨rfl, hB⟩
  · obtain ⟨b, o, rfl, hr⟩ := hl1 (by omega)
    obtain ⟨b', o', rfl, hr'⟩ := hl1' (by omega)
    clear hl1 hl1'
    have Hl0 := Lib.hid hl0
    have Hl0' := Lib.hid hl0'
    clear hl0 hl0'
    generalize hpost : TwoPost (vaEqualAll l l') w = post
    have Hpost := Lib.hid hpost
    clear hpost
    go_enter Tryd.func9, Tryd.ntmps9
    go_wp2
    go_loopw [61] (fun a wr => EqRnd w ((w.alloc (.cells #[.int .i64 8, .int .u64 n, .string s, .int .i64 t.sec, .int .i64 t.nsec, .int .i64 t.off, .slice (some ⟨b, o, none⟩) len cap] 27)).alloc (.cells #[.int .i64 8, .int .u64 n', .string s', .int .i64 t'.sec, .int .i64 t'.nsec, .int .i64 t'.off, .slice (some ⟨b', o', none⟩) len cap'] 27)) l l' b o b' o' a wr) (fun a _ => len - (intOf a).toNat)
    case atStart => exact ⟨0, l, l', by omega, Hl0.out.symm.trans Hl0'.out, rfl, rfl, hr, hr', Nat.le_refl _, Below.refl _ _⟩
    case round =>
      obtain ⟨k, rest, rest', hk, hkk, rfl, hval, hrs, hrs', hrz, hB⟩ := hrel
      have hk' := Hl0.out
      have Hval := Lib.hid hval
      have hBw := Lib.hid (Below.trans (b := ((w.alloc (.cells #[.int .i64 8, .int .u64 n, .string s, .int .i64 t.sec, .int .i64 t.nsec, .int .i64 t.off, .slice (some ⟨b, o, none⟩) len cap] 27)).alloc (.cells #[.int .i64 8, .int .u64 n', .string s', .int .i64 t'.sec, .int .i64 t'.nsec, .int .i64 t'.off, .slice (some ⟨b', o', none⟩) len cap'] 27))) (show Below w.heap.size w _ from (by repeat' (first | with_reducible assumption | with_reducible exact Below.refl _ _ | with_reducible refine Below.setCell ?_ ?_ _ | with_reducible refine Below.alloc ?_ ?_ _ | with_reducible refine Below.drew ?_ | with_reducible refine below_drewN ?_ _ | omega | (simp; done) | (simp; omega)))) (hB.mono (by simp; omega)))
      cases rest with
      | nil =>
        have hke : ¬ ((k : Int) < (len : Int)) := by simp [GAttrs.len] at hk; omega
        clear hk hkk hval hrs hrs' hrz hB
        go_wp2
        have := Hpost.out
        subst this
        have he : vaEqualAll .nil rest' = (true, false) := by unfold vaEqualAll; rfl
        exact ⟨by rw [Hval.out, he], hBw.out⟩
      | cons key v r =>
        cases rest' with
        | nil => simp [GAttrs.len] at hkk
        | cons key' u r' =>
        have hlt : k < len := by simp only [GAttrs.len] at hk; omega
        have hkn : k + 1 + r.len = l.len := by simp only [GAttrs.len] at hk; omega
        have hrr : r.len = r'.len := by simp only [GAttrs.len] at hkk; omega
        have hvs : v.size + r.size ≤ l.size := by simpa only [GAttrs.size] using hrz
        have hrle : r.size ≤ l.size := by omega
        have Hih := Lib.hid (ih v (by omega))
        have hKw : Keeps w ((w.alloc (.cells #[.int .i64 8, .int .u64 n, .string s, .int .i64 t.sec, .int .i64 t.nsec, .int .i64 t.off, .slice (some ⟨b, o, none⟩) len cap] 27)).alloc (.cells #[.int .i64 8, .int .u64 n', .string s', .int .i64 t'.sec, .int .i64 t'.nsec, .int .i64 t'.off, .slice (some ⟨b', o', none⟩) len cap'] 27)) := keeps_of_below (by repeat' (first | with_reducible assumption | with_reducible exact Below.refl _ _ | with_reducible refine Below.setCell ?_ ?_ _ | with_reducible refine Below.alloc ?_ ?_ _ | with_reducible refine Below.drew ?_ | with_reducible refine below_drewN ?_ _ | omega | (simp; done) | (simp; omega)))
        have hK := hKw.trans (keeps_of_below hB)
        unfold RAs at hrs hrs'
        obtain ⟨hkey, hv, hr1⟩ := hrs
        obtain ⟨hkey', hu, hr1'⟩ := hrs'
        have Hr := Lib.hid hr1
        have Hr' := Lib.hid hr1'
        have hbox : wr.cell? ⟨w.heap.size + 1, 6, none⟩ = some (.slice (some ⟨b', o', none⟩) len cap') := by rw [hB.cell (p := ⟨w.heap.size + 1, 6, none⟩) (by simp)]; simp
        have hbs : w.heap.size + 1 < wr.heap.size := by have := hB.size; simp at this; omega
        have hkey := hK.cell hkey
        have hkey' := hK.cell hkey'
        have hv := hv.keep hK
        have hu := hu.keep hK
        have hbb : b < wr.heap.size := World.block_lt_of_cell? wr _ hkey
        have hbb' : b' < wr.heap.size := World.block_lt_of_cell? wr _ hkey'
        obtain ⟨vk, vn, vs, vt, vl⟩ := v
        obtain ⟨uk, un, us, ut, ul⟩ := u
        unfold RVal at hv hu
        obtain ⟨c0, c1, c2, c3, c4, c5, Av, lenv, capv, c6, hlenv, hAv⟩ := hv
        obtain ⟨d0, d1, d2, d3, d4, d5, Au, lenu, capu, d6, hlenu, hAu⟩ := hu
        have HSv := Lib.hid (show RS wr vl Av lenv from ⟨hlenv, hAv⟩)
        have HSu := Lib.hid (show RS wr ul Au lenu from ⟨hlenu, hAu⟩)
        have HB := Lib.hid hB
        clear hlenv hAv hlenu hAu hr1 hr1' hrz hk hkk hval hK hKw hB ih hr hr' hvs hk'
        have q1 : w.heap.size < wr.heap.size := by omega
        have q2 : wr.heap.size ≠ w.heap.size + 1 := by omega
        have q3 : w.heap.size + 1 ≠ wr.heap.size := by omega
        have q4 : b' < wr.heap.size + 1 := by omega
        have q5 : b' ≠ wr.heap.size := by omega
        have q6 : wr.heap.size ≠ b' := by omega
        go_wp2
        go_region_held3 (fun w' => w'.cell? ⟨wr.heap.size, 0, none⟩ = some (.string key) ∧ w'.cell? ⟨wr.heap.size, 1, none⟩ = some (.int .i64 vk) ∧ w'.cell? ⟨wr.heap.size, 2, none⟩ = some (.int .u64 vn) ∧ w'.cell? ⟨wr.heap.size, 3, none⟩ = some (.string vs) ∧ w'.cell? ⟨wr.heap.size, 4, none⟩ = some (.int .i64 vt.sec) ∧ w'.cell? ⟨wr.heap.size, 5, none⟩ = some (.int .i64 vt.nsec) ∧ w'.cell? ⟨wr.heap.size, 6, none⟩ = some (.int .i64 vt.off) ∧ w'.cell? ⟨wr.heap.size, 7, none⟩ = some (.slice Av lenv capv) ∧ w'.cell? ⟨w.heap.size + 1, 6, none⟩ = some (.slice (some ⟨b', o', none⟩) len cap') ∧ w'.cell? ⟨b', o' + k * 8, none⟩ = some (.string key') ∧ w'.cell? ⟨b', o' + k * 8 + 1, none⟩ = some (.int .i64 uk) ∧ w'.cell? ⟨b', o' + k * 8 + 1 + 1, none⟩ = some (.int .u64 un) ∧ w'.cell? ⟨b', o' + k * 8 + 1 + 2, none⟩ = some (.string us) ∧ w'.cell? ⟨b', o' + k * 8 + 1 + 3, none⟩ = some (.int .i64 ut.sec) ∧ w'.cell? ⟨b', o' + k * 8 + 1 + 4, none⟩ = some (.int .i64 ut.nsec) ∧ w'.cell? ⟨b', o' + k * 8 + 1 + 5, none⟩ = some (.int .i64 ut.off) ∧ w'.cell? ⟨b', o' + k * 8 + 1 + 6, none⟩ = some (.slice Au lenu capu)) (go_keep) (first | (go_at_call 13; go_loud (refine (attrEq_val key key' (.mk vk vn vs vt vl) (.mk uk un us ut ul) Hih.out _ _ _ _ _ _ _ (HSv.out.keep (keeps_of_below (by repeat' (first | with_reducible assumption | with_reducible exact Below.refl _ _ | with_reducible refine Below.setCell ?_ ?_ _ | with_reducible refine Below.alloc ?_ ?_ _ | with_reducible refine Below.drew ?_ | with_reducible refine below_drewN ?_ _ | omega | (simp; done) | (simp; omega))))) (HSu.out.keep (keeps_of_below (by repeat' (first | with_reducible assumption | with_reducible exact Below.refl _ _ | with_reducible refine Below.setCell ?_ ?_ _ | with_reducible refine Below.alloc ?_ ?_ _ | with_reducible refine Below.drew ?_ | with_reducible refine below_drewN ?_ _ | omega | (simp; done) | (simp; omega)))))).mono ?_); rintro e w3 ⟨rfl, hb3⟩; obtain ⟨hc3, hf3⟩ := bcell hb3))
        have HBe := Lib.hid (keeps_below (w := ((w.alloc (.cells #[.int .i64 8, .int .u64 n, .string s, .int .i64 t.sec, .int .i64 t.nsec, .int .i64 t.off, .slice (some ⟨b, o, none⟩) len cap] 27)).alloc (.cells #[.int .i64 8, .int .u64 n', .string s', .int .i64 t'.sec, .int .i64 t'.nsec, .int .i64 t'.off, .slice (some ⟨b', o', none⟩) len cap'] 27))) (wr := (wr.alloc _).drew) (HB.out.alloc HB.out.size _).drew hb3)
        have HBw := Lib.hid ((show Below w.heap.size w ((w.alloc (.cells #[.int .i64 8, .int .u64 n, .string s, .int .i64 t.sec, .int .i64 t.nsec, .int .i64 t.off, .slice (some ⟨b, o, none⟩) len cap] 27)).alloc (.cells #[.int .i64 8, .int .u64 n', .string s', .int .i64 t'.sec, .int .i64 t'.nsec, .int .i64 t'.off, .slice (some ⟨b', o', none⟩) len cap'] 27)) from (by repeat' (first | with_reducible assumption | with_reducible exact Below.refl _ _ | with_reducible refine Below.setCell ?_ ?_ _ | with_reducible refine Below.alloc ?_ ?_ _ | with_reducible refine Below.drew ?_ | with_reducible refine below_drewN ?_ _ | omega | (simp; done) | (simp; omega)))).trans (HBe.out.mono (by simp; omega)))
        clear hc3 hf3 hb3
        by_cases h2 : (attrEqual key (.mk vk vn vs vt vl) key' (.mk uk un us ut ul)).2 = true
        · have Hend := Lib.hid (Hval.out.trans (equalAll_key (r := r) (r' := r') (.inl h2)))
          clear Hval
          generalize (attrEqual key (.mk vk vn vs vt vl) key' (.mk uk un us ut ul)) = R at h2 Hend ⊢
          go_wp2
          have := Hpost.out
          subst this
          refine ⟨?_, HBw.out⟩
          rw [Hend.out]
          first | rfl | (simp [h2]; done)
        · have h2 : (attrEqual key (.mk vk vn vs vt vl) key' (.mk uk un us ut ul)).2 = false := by simpa using h2
          by_cases h1 : (attrEqual key (.mk vk vn vs vt vl) key' (.mk uk un us ut ul)).1 = true
          · have Hend := Lib.hid (Hval.out.trans (equalAll_on (r := r) (r' := r') h2 h1))
            clear Hval
            generalize (attrEqual key (.mk vk vn vs vt vl) key' (.mk uk un us ut ul)) = R at h2 h1 ⊢
            go_wp2
            refine ⟨⟨k + 1, r, r', hkn, hrr, by push_cast; rfl, Hend.out, ?_, ?_, by omega, HBe.out⟩, ?_⟩
            · have := Hr.out
              rwa [show o + (k + 1) * 8 = o + k * 8 + 8 by omega]
            · have := Hr'.out
              rwa [show o' + (k + 1) * 8 = o' + k * 8 + 8 by omega]
            · simp only [intOf]; omega
          · have h1 : (attrEqual key (.mk vk vn vs vt vl) key' (.mk uk un us ut ul)).1 = false := by simpa using h1
            have Hend := Lib.hid (Hval.out.trans (equalAll_key (r := r) (r' := r') (.inr h1)))
            clear Hval
            generalize (attrEqual key (.mk vk vn vs vt vl) key' (.mk uk un us ut ul)) = R at h2 h1 Hend ⊢
            go_wp2
            have := Hpost.out
            subst this
            refine ⟨?_, HBw.out⟩
            rw [Hend.out]
            first | rfl | (simp [h1, h2]; done)

theorem eq_val (d : GVal) (hd : d.l.len ≤ 140737488355328) (ih : ∀ v : GVal, v.size < d.size → EqV v) : EqV d := by
  obtain ⟨k, n, s, t, l⟩ := d
  rintro ⟨k', n', s', t', l'⟩ w A A' len cap len' cap' hl hl'
  simp only [l_mk] at hl hl' hd
  simp only [vVal, kind_mk, n_mk, s_mk, t_mk, l_mk]
  unfold vaEqual
  by_cases hk : k = k'
  · subst hk
    rw [if_neg (by simp)]
    by_cases h3 : k = 3
    · subst h3; rw [if_pos rfl]; exact eq_float _ _ _ _ _ _ _ _ _ _ _ _ _
    rw [if_neg h3]
    by_cases h5 : k = 5
    · subst h5; rw [if_pos rfl]; exact eq_str _ _ _ _ _ _ _ _ _ _ _ _ _
    rw [if_neg h5]
    by_cases h6 : k = 6
    · subst h6; rw [if_pos rfl]; exact eq_time _ _ _ _ _ _ _ _ _ _ _ _ _
    rw [if_neg h6]
    by_cases h8 : k = 8
    · subst h8
      rw [if_pos rfl]
      by_cases hlen : l.len = l'.len
      · rw [if_neg (by simp [hlen])]
        have e : len' = len := by have := hl.1; have := hl'.1; omega
        subst e
        exact eq_group _ _ _ _ _ _ _ _ _ _ _ _ _ _ hl hl' (by have := hl.1; omega) (fun v hv => ih v (by simp only [GVal.size]; omega))
      · rw [if_pos hlen]
        exact eq_lens _ _ _ _ _ _ _ _ _ _ _ _ _ (by have := hl.1; have := hl'.1; omega)
    rw [if_neg h8]
    by_cases h0 : k = 0
    · subst h0; rw [if_pos rfl]; exact eq_anys _ _ _ _ _ _ _ _ _ _ _ _ _ _ _ hl hl'
    rw [if_neg h0]
    by_cases h9 : k = 9
    · subst h9; rw [if_pos rfl]; exact eq_valuer _ _ _ _ _ _ _ _ _ _ _ _ _
    rw [if_neg h9]
    exact eq_rest _ _ _ _ _ _ _ _ _ _ _ _ _ _ h3 h5 h6 h8 h0 h9
  · rw [if_pos hk]
    exact eq_diff _ _ _ _ _ _ _ _ _ _ _ _ _ _ _ hk

/-- spec.VaEqual. -/
theorem eq_size : ∀ (N : Nat) (d : GVal), d.size ≤ N → N ≤ 700000 → EqV d
  | 0, d, h, _ => absurd h (by have := size_pos d; omega)
  | N + 1, d, h, hN => eq_val d (by have h1 := len_le_size d.l; obtain ⟨k, n, s, t, l⟩ := d; simp only [GVal.size, l_mk] at h h1 ⊢; omega) (fun v hv => eq_size N v (by omega) (by omega))
theorem eq_any (d : GVal) (h : d.size ≤ 700000) : EqV d := eq_size d.size d (Nat.le_refl _) h

end Go.Proofs.YtcgdnjigocknbaaDoor.Va
