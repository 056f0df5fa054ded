/- The statement FnVaResolve: the walk. -/
import Derived.Test.YtdeomgfapffidaaGreatDoorSRes
import Derived.Test.YtdeomgfapffidaaGreatDoorSameB
import Derived.Test.YtdeomgfapffidaaGreatDoorRvs
import Derived.Deep.RegionHeld3
namespace Go.Proofs.YtdeomgfapffidaaGreatDoor.Va
set_option linter.unusedVariables false
set_option linter.unusedSimpArgs false
open Go Go.RowKit

/- What is told of a value hangs not on the counter. -/
theorem told_list_c (c : Option Addr) : ∀ m : GAttrs, GAttrs.all (fun v => told (valueOf c v) = told (valueOf none v)) m → attrsTold (attrsOf c m) = attrsTold (attrsOf none m)
  | .nil, _ => by simp only [attrsOf]
  | .cons key v r, h => by
    simp only [attrsOf, attrsTold]
    rw [h.1, told_list_c c r h.2]
theorem all_size {p : GVal → Prop} (N : Nat) : ∀ (l : GAttrs), l.size ≤ N → (∀ v : GVal, v.size ≤ N → p v) → GAttrs.all p l
  | .nil, _, _ => trivial
  | .cons key v r, hN, hp => by
    unfold GAttrs.size at hN
    exact ⟨hp v (by omega), all_size N r (by omega) hp⟩
theorem told_c (c : Option Addr) : ∀ (N : Nat) (d : GVal), d.size ≤ N → told (valueOf c d) = told (valueOf none d)
  | 0, d, hN => absurd hN (by have := size_pos d; omega)
  | N + 1, .mk k n s t l, hN => by
    simp only [GVal.size] at hN
    by_cases h8 : k = 8
    · subst h8
      rw [pvalue_grp, pvalue_grp, full_kept, full_kept]
      have hsk := size_kept l
      simp only [told]
      rw [told_list_c c (kept l) (all_size N _ (by omega) (fun v hv => told_c c N v hv))]
    by_cases h9 : k = 9
    · subst h9
      rw [pvalue_lv, pvalue_lv]
      by_cases hs : s.size = 0
      · rw [if_pos hs, if_pos hs, head_value, head_value]
        simp only [told]
        have : told (valueOf c l.headVal) = told (valueOf none l.headVal) := by
          cases l with
          | nil => simp [GAttrs.headVal, GVal.zero, valueOf, anyOf]
          | cons key v r => simp only [GAttrs.headVal, GAttrs.size] at hN ⊢; exact told_c c N v (by omega)
        rw [this]
      · rw [if_neg hs, if_neg hs]; simp only [told]
    · have e : valueOf c (.mk k n s t l) = valueOf none (.mk k n s t l) := by
        unfold valueOf
        rw [if_neg h8, if_neg h9, if_neg h8, if_neg h9]
      rw [e]

/-- What is told at the end. -/
def gotOf : OutD → GVal
  | .val d _ => told (valueOf none d)
  | .pan _ => .mk 0 1 panText .zero .nil
  | .much => .mk 0 1 muchText .zero .nil
theorem tell_got (c : Option Addr) : ∀ o : OutD, tellOf (outOf' c o) = gotOf o
  | .val d _ => told_c c d.size d (Nat.le_refl _)
  | .pan _ => rfl
  | .much => rfl
theorem count_got (c : Option Addr) : ∀ o : OutD, countOf (outOf' c o) = specCalls o
  | .val _ _ => rfl
  | .pan _ => rfl
  | .much => rfl

/-- impl.Resolve, of the values that the statements speak of. -/
theorem implRes_any (d : GVal) (w : World) (A : Option Addr) (len cap : Nat) (hg : GoodD d) (hl : RS w d.l A len) :
    Calls Tryz.prog 21 #[vVal d A len cap] w fun e w' => ∃ A len cap, e = .returned (.tuple #[vVal (gotOf (resolveD 100 d 0)) A len cap, .int .i64 (specCalls (resolveD 100 d 0))]) ∧ RSP (New w) w' (gotOf (resolveD 100 d 0)).l A len ∧ Below w.heap.size w w' := by
  have e := resolve_value (some ⟨w.heap.size + 1 + 1, 0, none⟩) 100 d 0 hg
  refine implResolve_any d w A len cap hg hl _ _ (by rw [e, count_got]) (by rw [e, tell_got]) ?_
  intro d' c h
  rw [e] at h
  cases ho : resolveD 100 d 0 with
  | val d1 c1 =>
    rw [ho] at h
    injection h with h1 h2
    subst h1
    have hgd := (resolve_good 100 d 0 d1 c1 hg ho).1
    have := vsize_of (some ⟨w.heap.size + 1 + 1, 0, none⟩) d1
    have := hgd.2.2
    omega
  | pan c1 => rw [ho] at h; cases h
  | much => rw [ho] at h; cases h

/-- laws.vaBegins. -/
theorem begins_any (s p : ByteArray) (h : p.size ≤ s.size) (he : s.extract 0 p.size = p) (hz : s.size ≤ 1000) (w : World) :
    Calls Tryz.prog 22 #[.string s, .string p] w fun e w' => e = .returned (.bool true) ∧ w = w' := by
  have h' : (p.size : Int) ≤ (s.size : Int) := by omega
  have hz' : (s.size : Int) ≤ 1000 := by omega
  go_enter Tryz.func22, Tryz.ntmps22
  go_wp2
  go_ret
  exact ⟨rfl, rfl⟩

section
variable (da : GVal) (w : World) (A : Option Addr) (len cap : Nat)

set_option maxRecDepth 100000 in
set_option maxHeartbeats 400000 in
theorem lawRes_no1 (cFa : ∀ wx, Calls Tryz.prog 15 #[vVal da A len cap] wx (BoolEnd false wx)) :
    Calls Tryz.prog 4 #[vVal da A len cap] w (YesEnd w) := by
  unfold vVal at cFa ⊢
  unfold YesEnd
  have CFa := Lib.hid cFa
  clear cFa
  go_enter Tryz.func4, Tryz.ntmps4
  go_wp2_with (go_at_call 15; (with_reducible refine (CFa.out _).mono ?_); rintro e w2 ⟨rfl, hb2⟩; have hB2 := keeps_below (show Below w.heap.size w _ from (by repeat' (first | with_reducible assumption | with_reducible exact Below.refl _ _ | with_reducible refine Below.setCell ?_ ?_ _ | with_reducible refine Below.alloc ?_ ?_ _ | with_reducible refine Below.drew ?_ | with_reducible refine below_drewN ?_ _ | omega | (simp; done) | (simp; omega)))) hb2)
  go_ret
  exact ⟨rfl, hB2⟩

set_option maxRecDepth 100000 in
set_option maxHeartbeats 1000000 in
theorem lawRes_no2 (cFa : ∀ wx, Calls Tryz.prog 15 #[vVal da A len cap] wx (BoolEnd true wx)) (ha : RS w da.l A len) (cN : ∀ wx b, RVs wx [da] b 0 → Calls Tryz.prog 16 #[.slice (some ⟨b, 0, none⟩) 1 1] wx (BoolEnd false wx)) :
    Calls Tryz.prog 4 #[vVal da A len cap] w (YesEnd w) := by
  unfold vVal at cFa ⊢
  unfold YesEnd
  have CFa := Lib.hid cFa
  have CN := Lib.hid cN
  have HX := box_new w 27 da A len cap _ rfl
  have hW : Below w.heap.size w (w.alloc (.cells #[.int .i64 da.kind, .int .u64 da.n, .string da.s, .int .i64 da.t.sec, .int .i64 da.t.nsec, .int .i64 da.t.off, .slice A len cap] 27)) := (by repeat' (first | with_reducible assumption | with_reducible exact Below.refl _ _ | with_reducible refine Below.setCell ?_ ?_ _ | with_reducible refine Below.alloc ?_ ?_ _ | with_reducible refine Below.drew ?_ | with_reducible refine below_drewN ?_ _ | omega | (simp; done) | (simp; omega)))
  have HRA := Lib.hid ha
  clear cFa cN ha
  go_enter Tryz.func4, Tryz.ntmps4
  go_wp2_with fail
  generalize w.alloc (.cells #[.int .i64 da.kind, .int .u64 da.n, .string da.s, .int .i64 da.t.sec, .int .i64 da.t.nsec, .int .i64 da.t.off, .slice A len cap] 27) = W at HX hW ⊢
  have HXA := Lib.hid HX
  clear HX
  go_wp2_with (first
    | (go_at_call 15; (with_reducible refine (CFa.out _).mono ?_); rintro e w2 ⟨rfl, hb2⟩; obtain ⟨p0, p1, p2, p3, p4, p5, p6⟩ := HXA.out.keep (keeps_of_below hb2); have hB2 := keeps_below hW hb2; have hK2 := Lib.hid (keeps_of_below hb2))
    | (go_at_call 16; (refine (CN.out _ _ (rvs1 (keeps_of_below hB2) HRA.out)).mono ?_); rintro e w4 ⟨rfl, hb4⟩; have hB4 := keeps_below (keeps_below hB2 ((Below.refl _ _).alloc (Nat.le_refl _) _)) hb4; have hK4 := Lib.hid ((hK2.out.trans (keeps_alloc _ _)).trans (keeps_of_below hb4)); have HL4 := Lib.hid (HRA.out.keep (keeps_of_below hB4)); clear hb4 p0 p1 p2 p3 p4 p5 p6; obtain ⟨p0, p1, p2, p3, p4, p5, p6⟩ := HXA.out.keep hK4.out))
  go_ret
  exact ⟨rfl, hB4⟩

set_option maxRecDepth 100000 in
set_option maxHeartbeats 1000000 in
theorem lawRes_val (cFa : ∀ wx, Calls Tryz.prog 15 #[vVal da A len cap] wx (BoolEnd true wx)) (ha : RS w da.l A len) (cN : ∀ wx b, RVs wx [da] b 0 → Calls Tryz.prog 16 #[.slice (some ⟨b, 0, none⟩) 1 1] wx (BoolEnd true wx)) (k : Nat) (dt dm : GVal)
    (cT : ∀ wx, Keeps w wx → Calls Tryz.prog 20 #[vVal da A len cap] wx fun e w' => ∃ A len cap, e = .returned (vRes dt A len cap k false false) ∧ RSP (New wx) w' dt.l A len ∧ Below wx.heap.size wx w')
    (cM : ∀ wx, Keeps w wx → Calls Tryz.prog 21 #[vVal da A len cap] wx fun e w' => ∃ A len cap, e = .returned (.tuple #[vVal dm A len cap, .int .i64 k]) ∧ RSP (New wx) w' dm.l A len ∧ Below wx.heap.size wx w')
    (cS : ∀ wx A1 A2 l1 c1 l2 c2, RS wx dm.l A1 l1 → RS wx dt.l A2 l2 → Calls Tryz.prog 18 #[vVal dm A1 l1 c1, vVal dt A2 l2 c2] wx (YesEnd wx)) :
    Calls Tryz.prog 4 #[vVal da A len cap] w (YesEnd w) := by
  have CT := Lib.hid cT
  have CM := Lib.hid cM
  have CS := Lib.hid cS
  clear cT cM cS
  unfold vVal at cFa
  unfold YesEnd
  have CFa := Lib.hid cFa
  have CN := Lib.hid cN
  have HX := box_new w 27 da A len cap _ rfl
  have hW : Below w.heap.size w (w.alloc (.cells #[.int .i64 da.kind, .int .u64 da.n, .string da.s, .int .i64 da.t.sec, .int .i64 da.t.nsec, .int .i64 da.t.off, .slice A len cap] 27)) := (by repeat' (first | with_reducible assumption | with_reducible exact Below.refl _ _ | with_reducible refine Below.setCell ?_ ?_ _ | with_reducible refine Below.alloc ?_ ?_ _ | with_reducible refine Below.drew ?_ | with_reducible refine below_drewN ?_ _ | omega | (simp; done) | (simp; omega)))
  have HRA := Lib.hid ha
  clear cFa cN ha
  unfold vVal YesEnd at CS
  unfold vVal vRes at CT
  unfold vVal at CM
  unfold vVal
  go_enter Tryz.func4, Tryz.ntmps4
  go_wp2_with fail
  generalize w.alloc (.cells #[.int .i64 da.kind, .int .u64 da.n, .string da.s, .int .i64 da.t.sec, .int .i64 da.t.nsec, .int .i64 da.t.off, .slice A len cap] 27) = W at HX hW ⊢
  have HXA := Lib.hid HX
  clear HX
  go_wp2_with (first
    | (go_at_call 15; (with_reducible refine (CFa.out _).mono ?_); rintro e w2 ⟨rfl, hb2⟩; obtain ⟨p0, p1, p2, p3, p4, p5, p6⟩ := HXA.out.keep (keeps_of_below hb2); have hB2 := keeps_below hW hb2; have hK2 := Lib.hid (keeps_of_below hb2))
    | (go_at_call 16; (refine (CN.out _ _ (rvs1 (keeps_of_below hB2) HRA.out)).mono ?_); rintro e w4 ⟨rfl, hb4⟩; have hB4 := keeps_below (keeps_below hB2 ((Below.refl _ _).alloc (Nat.le_refl _) _)) hb4; have hK4 := Lib.hid ((hK2.out.trans (keeps_alloc _ _)).trans (keeps_of_below hb4)); have HL4 := Lib.hid (HRA.out.keep (keeps_of_below hB4)); clear hb4 p0 p1 p2 p3 p4 p5 p6; obtain ⟨p0, p1, p2, p3, p4, p5, p6⟩ := HXA.out.keep hK4.out)
    | (go_at_call 20; ((refine (CT.out _ (keeps_of_below hB4)).mono ?_); rintro e w5 ⟨A5, l5, c5, rfl, hr5, hb5⟩; have hB5 := keeps_below hB4 hb5; have hs5 := hb5.size; have hK5 := Lib.hid (hK4.out.trans (keeps_of_below hb5)); clear p0 p1 p2 p3 p4 p5 p6; obtain ⟨p0, p1, p2, p3, p4, p5, p6⟩ := HXA.out.keep hK5.out; have hl5 : w.heap.size < w5.heap.size := World.block_lt_of_cell? _ ⟨w.heap.size, 0, none⟩ p0; have HR5 := Lib.hid hr5.rs; clear hr5 hb5))
    | (go_at_call 21; ((refine (CM.out _ (keeps_of_below (show Below w.heap.size w _ from (by repeat' (first | with_reducible assumption | with_reducible exact Below.refl _ _ | with_reducible refine Below.setCell ?_ ?_ _ | with_reducible refine Below.alloc ?_ ?_ _ | with_reducible refine Below.drew ?_ | with_reducible refine below_drewN ?_ _ | omega | (simp; done) | (simp; omega)))))).mono ?_); rintro e w6 ⟨A6, l6, c6, rfl, hr6, hb6⟩; have hB6 := keeps_below (show Below w.heap.size w _ from (by repeat' (first | with_reducible assumption | with_reducible exact Below.refl _ _ | with_reducible refine Below.setCell ?_ ?_ _ | with_reducible refine Below.alloc ?_ ?_ _ | with_reducible refine Below.drew ?_ | with_reducible refine below_drewN ?_ _ | omega | (simp; done) | (simp; omega)))) hb6; have hs6 := hb6.size; simp at hs6; have hl6 : w5.heap.size < w6.heap.size := (by omega); have HR6 := Lib.hid hr6.rs; have hK6 := Lib.hid ((keeps_alloc _ _).trans (keeps_of_below hb6)); obtain ⟨hc6, hf6⟩ := bcell hb6; clear hr6 hb6 p0 p1 p2 p3 p4 p5 p6))
    | (go_at_call 18; ((refine (CS.out _ _ _ _ _ _ _ (HR6.out.keep (keeps_alloc _ _)) (HR5.out.keep (hK6.out.trans (keeps_alloc _ _)))).mono ?_); rintro e w8 ⟨rfl, hb8⟩; have hB8 := keeps_below (show Below w.heap.size w _ from (by repeat' (first | with_reducible assumption | with_reducible exact Below.refl _ _ | with_reducible refine Below.setCell ?_ ?_ _ | with_reducible refine Below.alloc ?_ ?_ _ | with_reducible refine Below.drew ?_ | with_reducible refine below_drewN ?_ _ | omega | (simp; done) | (simp; omega)))) hb8; clear hb8)))
  go_ret
  exact ⟨rfl, hB8⟩

set_option maxRecDepth 100000 in
set_option maxHeartbeats 1000000 in
theorem lawRes_bad (cFa : ∀ wx, Calls Tryz.prog 15 #[vVal da A len cap] wx (BoolEnd true wx)) (ha : RS w da.l A len) (cN : ∀ wx b, RVs wx [da] b 0 → Calls Tryz.prog 16 #[.slice (some ⟨b, 0, none⟩) 1 1] wx (BoolEnd true wx)) (k : Nat) (s p : ByteArray) (pan much : Bool) (hpm : (pan = true ∧ much = false ∧ p = ⟨#[76, 111, 103, 86, 97, 108, 117, 101, 32, 112, 97, 110, 105, 99, 107, 101, 100]⟩) ∨ (pan = false ∧ much = true ∧ p = ⟨#[76, 111, 103, 86, 97, 108, 117, 101, 32, 99, 97, 108, 108, 101, 100, 32, 116, 111, 111, 32, 109, 97, 110, 121, 32, 116, 105, 109, 101, 115]⟩))
    (cT : ∀ wx, Keeps w wx → Calls Tryz.prog 20 #[vVal da A len cap] wx fun e w' => ∃ A len cap, e = .returned (vRes GVal.zero A len cap k pan much) ∧ Below wx.heap.size wx w')
    (cM : ∀ wx, Keeps w wx → Calls Tryz.prog 21 #[vVal da A len cap] wx fun e w' => ∃ A len cap, e = .returned (.tuple #[vVal (.mk 0 1 s .zero .nil) A len cap, .int .i64 k]) ∧ Below wx.heap.size wx w')
    (cB : ∀ wx, Calls Tryz.prog 22 #[.string s, .string p] wx fun e w' => e = .returned (.bool true) ∧ wx = w') :
    Calls Tryz.prog 4 #[vVal da A len cap] w (YesEnd w) := by
  have CT := Lib.hid cT
  have CM := Lib.hid cM
  have CB := Lib.hid cB
  clear cT cM cB
  unfold vVal at cFa
  unfold YesEnd
  have CFa := Lib.hid cFa
  have CN := Lib.hid cN
  have HX := box_new w 27 da A len cap _ rfl
  have hW : Below w.heap.size w (w.alloc (.cells #[.int .i64 da.kind, .int .u64 da.n, .string da.s, .int .i64 da.t.sec, .int .i64 da.t.nsec, .int .i64 da.t.off, .slice A len cap] 27)) := (by repeat' (first | with_reducible assumption | with_reducible exact Below.refl _ _ | with_reducible refine Below.setCell ?_ ?_ _ | with_reducible refine Below.alloc ?_ ?_ _ | with_reducible refine Below.drew ?_ | with_reducible refine below_drewN ?_ _ | omega | (simp; done) | (simp; omega)))
  have HRA := Lib.hid ha
  clear cFa cN ha
  unfold vVal
  simp only [vVal, vRes, GVal.zero, kind_mk, n_mk, s_mk, t_mk, l_mk, GTime.zero] at CT CM
  rcases hpm with ⟨rfl, rfl, rfl⟩ | ⟨rfl, rfl, rfl⟩
  all_goals
    go_enter Tryz.func4, Tryz.ntmps4
    go_wp2_with fail
    generalize w.alloc (.cells #[.int .i64 da.kind, .int .u64 da.n, .string da.s, .int .i64 da.t.sec, .int .i64 da.t.nsec, .int .i64 da.t.off, .slice A len cap] 27) = W at HX hW ⊢
    have HXA := Lib.hid HX
    clear HX
    go_wp2_with (first
      | (go_at_call 15; (with_reducible refine (CFa.out _).mono ?_); rintro e w2 ⟨rfl, hb2⟩; obtain ⟨p0, p1, p2, p3, p4, p5, p6⟩ := HXA.out.keep (keeps_of_below hb2); have hB2 := keeps_below hW hb2; have hK2 := Lib.hid (keeps_of_below hb2))
      | (go_at_call 16; (refine (CN.out _ _ (rvs1 (keeps_of_below hB2) HRA.out)).mono ?_); rintro e w4 ⟨rfl, hb4⟩; have hB4 := keeps_below (keeps_below hB2 ((Below.refl _ _).alloc (Nat.le_refl _) _)) hb4; have hK4 := Lib.hid ((hK2.out.trans (keeps_alloc _ _)).trans (keeps_of_below hb4)); have HL4 := Lib.hid (HRA.out.keep (keeps_of_below hB4)); clear hb4 p0 p1 p2 p3 p4 p5 p6; obtain ⟨p0, p1, p2, p3, p4, p5, p6⟩ := HXA.out.keep hK4.out)
      | (go_at_call 20; ((refine (CT.out _ (keeps_of_below hB4)).mono ?_); rintro e w5 ⟨A5, l5, c5, rfl, hb5⟩; have hB5 := keeps_below hB4 hb5; have hs5 := hb5.size; have hK5 := Lib.hid (hK4.out.trans (keeps_of_below hb5)); clear p0 p1 p2 p3 p4 p5 p6; obtain ⟨p0, p1, p2, p3, p4, p5, p6⟩ := HXA.out.keep hK5.out; have hl5 : w.heap.size < w5.heap.size := World.block_lt_of_cell? _ ⟨w.heap.size, 0, none⟩ p0; clear hb5))
      | (go_at_call 21; ((refine (CM.out _ (keeps_of_below (show Below w.heap.size w _ from (by repeat' (first | with_reducible assumption | with_reducible exact Below.refl _ _ | with_reducible refine Below.setCell ?_ ?_ _ | with_reducible refine Below.alloc ?_ ?_ _ | with_reducible refine Below.drew ?_ | with_reducible refine below_drewN ?_ _ | omega | (simp; done) | (simp; omega)))))).mono ?_); rintro e w6 ⟨A6, l6, c6, rfl, hb6⟩; have hB6 := keeps_below (show Below w.heap.size w _ from (by repeat' (first | with_reducible assumption | with_reducible exact Below.refl _ _ | with_reducible refine Below.setCell ?_ ?_ _ | with_reducible refine Below.alloc ?_ ?_ _ | with_reducible refine Below.drew ?_ | with_reducible refine below_drewN ?_ _ | omega | (simp; done) | (simp; omega)))) hb6; have hs6 := hb6.size; simp at hs6; have hl6 : w5.heap.size < w6.heap.size := (by omega); obtain ⟨hc6, hf6⟩ := bcell hb6; clear hb6 p0 p1 p2 p3 p4 p5 p6))
      | (go_at_call 22; ((with_reducible refine (CB.out _).mono ?_); rintro e w8 ⟨rfl, rfl⟩)))
    go_ret
    exact ⟨rfl, (by repeat' (first | with_reducible assumption | with_reducible exact Below.refl _ _ | with_reducible refine Below.setCell ?_ ?_ _ | with_reducible refine Below.alloc ?_ ?_ _ | with_reducible refine Below.drew ?_ | with_reducible refine below_drewN ?_ _ | omega | (simp; done) | (simp; omega)))⟩
end

/-- laws.FnVaResolve. -/
theorem lawRes_any (da : GVal) (w : World) (A : Option Addr) (len cap : Nat) (wa : da.wf) (ha : RS w da.l A len) :
    Calls Tryz.prog 4 #[vVal da A len cap] w (YesEnd w) := by
  have cFa := fun wx => fits7_any da wx A len cap wa ha.1
  cases h1 : fits7 da with
  | false => rw [h1] at cFa; exact lawRes_no1 da w A len cap cFa
  | true =>
    rw [h1] at cFa
    have cN := fun wx b h => fine_any [da] wx b 0 1 1 rfl (by omega) (by simp only [List.mem_cons, List.not_mem_nil, or_false, forall_eq]; exact wa) h
    by_cases h3 : 0 ≤ fineL [da] 65536
    · rw [decide_eq_true h3] at cN
      unfold fineL fineL at h3
      rw [if_neg (by omega)] at h3
      obtain ⟨ga, sa⟩ := left_good da 20 65536 h3
      have sza : da.size ≤ 65536 := by omega
      have hgd : GoodD da := ⟨ga, wa, by omega⟩
      have cT := fun wx (hx : Keeps w wx) => specResolve_any da wx A len cap hgd (ha.keep hx)
      have cM := fun wx (hx : Keeps w wx) => implRes_any da wx A len cap hgd (ha.keep hx)
      unfold SResPost at cT
      cases ho : resolveD 100 da 0 with
      | val d' k =>
        rw [ho] at cT cM
        have hg' := (resolve_good 100 da 0 d' k hgd ho).1
        have hP := made_size none _ d' (Nat.le_refl _) hg'.2.1 hg'.1
        have hz := told_gsize none d'
        have hz' := hg'.2.2
        exact lawRes_val da w A len cap cFa ha cN k (vaTidy d') (told (valueOf none d')) cT cM (fun wx A1 A2 l1 c1 l2 c2 h1 h2 => same_any_v _ (by omega) _ wx A1 A2 l1 c1 l2 c2 hP h1 h2)
      | pan k =>
        rw [ho] at cT cM
        exact lawRes_bad da w A len cap cFa ha cN k panText _ true false (.inl ⟨rfl, rfl, rfl⟩) (fun wx hx => (cT wx hx).mono fun e w' h => by obtain ⟨a, b, c, h1, _, h3⟩ := h; exact ⟨a, b, c, h1, h3⟩) (fun wx hx => (cM wx hx).mono fun e w' h => by obtain ⟨a, b, c, h1, _, h3⟩ := h; exact ⟨a, b, c, h1, h3⟩)
          (fun wx => begins_any _ _ (by decide) (by decide) (by decide) wx)
      | much =>
        rw [ho] at cT cM
        exact lawRes_bad da w A len cap cFa ha cN 100 muchText _ false true (.inr ⟨rfl, rfl, rfl⟩) (fun wx hx => (cT wx hx).mono fun e w' h => by obtain ⟨a, b, c, h1, _, h3⟩ := h; exact ⟨a, b, c, h1, h3⟩) (fun wx hx => (cM wx hx).mono fun e w' h => by obtain ⟨a, b, c, h1, _, h3⟩ := h; exact ⟨a, b, c, h1, h3⟩)
          (fun wx => begins_any _ _ (by decide) (by decide) (by decide) wx)
    · rw [decide_eq_false h3] at cN
      exact lawRes_no2 da w A len cap cFa ha cN

end Go.Proofs.YtdeomgfapffidaaGreatDoor.Va
