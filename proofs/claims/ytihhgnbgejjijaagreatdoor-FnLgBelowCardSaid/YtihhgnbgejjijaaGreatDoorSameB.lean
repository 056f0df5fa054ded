/- When package spec has a value that was read be one that can be read (spec.VaSame, vaSameEnd, VaSameAll): the walks, where it says yes. -/
import Derived.Test.YtihhgnbgejjijaaGreatDoorHead
import Derived.Test.YtihhgnbgejjijaaGreatDoorFits
import Derived.Deep.RegionHeld3
namespace Go.Proofs.YtihhgnbgejjijaaGreatDoor.Va
set_option linter.unusedVariables false
set_option linter.unusedSimpArgs false
open Go Go.RowKit

mutual
/-- spec.VaSame says yes. -/
def Same : GVal → GVal → Prop
  | .mk k n s t l, .mk k' n' s' t' l' =>
    k = k' ∧
    (if k = 0 then n = n' ∧ (if n = 0 ∨ n = 12 ∨ n = 14 then True else if n = 6 ∨ n = 7 ∨ n = 8 then t.sec = t'.sec else if n = 13 then s = s' ∧ t.sec = t'.sec ∧ l.head = l'.head else if n = 15 then s = s' ∧ l.head = l'.head else s = s')
     else if k = 5 then s = s'
     else if k = 6 then t = t'
     else if k = 8 then SameL l l'
     else if k = 9 then s = s' ∧ (s ≠ ByteArray.empty ∨ (n = n' ∧ SameE l l'))
     else n = n')
/-- spec.vaSameEnd says yes. -/
def SameE : GAttrs → GAttrs → Prop
  | .cons _ v _, .cons _ v' _ => Same v v'
  | _, _ => False
/-- spec.VaSameAll says yes. -/
def SameL : GAttrs → GAttrs → Prop
  | .nil, .nil => True
  | .cons k v r, .cons k' v' r' => k = k' ∧ Same v v' ∧ SameL r r'
  | _, _ => False
end

/-- The contract of spec.VaSame. -/
def SameV (d : GVal) : Prop := ∀ (d' : GVal) (w : World) (A A' : Option Addr) (len cap len' cap' : Nat), Same d d' → RS w d.l A len → RS w d'.l A' len' →
  Calls Tryz.prog 55 #[vVal d A len cap, vVal d' A' len' cap'] w (YesEnd w)
def SameLV (l : GAttrs) : Prop := ∀ (l' : GAttrs) (w : World) (A A' : Option Addr) (len cap len' cap' : Nat), SameL l l' → l.len ≤ 140737488355328 → RS w l A len → RS w l' A' len' →
  Calls Tryz.prog 18 #[.slice A len cap, .slice A' len' cap'] w (YesEnd w)
def SameEV (d : GVal) : Prop := ∀ (d' : GVal) (w : World) (A A' : Option Addr) (len cap len' cap' : Nat), SameE d.l d'.l → RS w d.l A len → RS w d'.l A' len' →
  Calls Tryz.prog 106 #[vVal d A len cap, vVal d' A' len' cap'] w (YesEnd w)

section
variable (n n' : Int) (s s' : ByteArray) (t t' : GTime) (l l' : GAttrs) (w : World) (A A' : Option Addr) (len cap len' cap' : Nat)

set_option maxRecDepth 100000 in
set_option maxHeartbeats 400000 in
theorem same_rest (k : Int) (h5 : ¬ k = 5) (h6 : ¬ k = 6) (h8 : ¬ k = 8) (h0 : ¬ k = 0) (h9 : ¬ k = 9) : Calls Tryz.prog 55 #[.agg #[.int .i64 k, .int .u64 n, .string s, .int .i64 t.sec, .int .i64 t.nsec, .int .i64 t.off, .slice A len cap], .agg #[.int .i64 k, .int .u64 n, .string s', .int .i64 t'.sec, .int .i64 t'.nsec, .int .i64 t'.off, .slice A' len' cap']] w (YesEnd w) := by
  unfold YesEnd
  go_enter Tryz.func55, Tryz.ntmps55
  go_wp2
  go_ret
  exact ⟨rfl, (by repeat' (first | with_reducible assumption | with_reducible exact Below.refl _ _ | with_reducible refine Below.setCell ?_ ?_ _ | with_reducible refine Below.alloc ?_ ?_ _ | with_reducible refine Below.drew ?_ | with_reducible refine below_drewN ?_ _ | omega | (simp; done) | (simp; omega)))⟩

set_option maxRecDepth 100000 in
set_option maxHeartbeats 400000 in
theorem same_str  : Calls Tryz.prog 55 #[.agg #[.int .i64 5, .int .u64 n, .string s, .int .i64 t.sec, .int .i64 t.nsec, .int .i64 t.off, .slice A len cap], .agg #[.int .i64 5, .int .u64 n', .string s, .int .i64 t'.sec, .int .i64 t'.nsec, .int .i64 t'.off, .slice A' len' cap']] w (YesEnd w) := by
  unfold YesEnd
  go_enter Tryz.func55, Tryz.ntmps55
  go_wp2
  go_ret
  exact ⟨rfl, (by repeat' (first | with_reducible assumption | with_reducible exact Below.refl _ _ | with_reducible refine Below.setCell ?_ ?_ _ | with_reducible refine Below.alloc ?_ ?_ _ | with_reducible refine Below.drew ?_ | with_reducible refine below_drewN ?_ _ | omega | (simp; done) | (simp; omega)))⟩

set_option maxRecDepth 100000 in
set_option maxHeartbeats 400000 in
theorem same_time  : Calls Tryz.prog 55 #[.agg #[.int .i64 6, .int .u64 n, .string s, .int .i64 t.sec, .int .i64 t.nsec, .int .i64 t.off, .slice A len cap], .agg #[.int .i64 6, .int .u64 n', .string s', .int .i64 t.sec, .int .i64 t.nsec, .int .i64 t.off, .slice A' len' cap']] w (YesEnd w) := by
  unfold YesEnd
  go_enter Tryz.func55, Tryz.ntmps55
  go_wp2
  go_ret
  exact ⟨rfl, (by repeat' (first | with_reducible assumption | with_reducible exact Below.refl _ _ | with_reducible refine Below.setCell ?_ ?_ _ | with_reducible refine Below.alloc ?_ ?_ _ | with_reducible refine Below.drew ?_ | with_reducible refine below_drewN ?_ _ | omega | (simp; done) | (simp; omega)))⟩

set_option maxRecDepth 100000 in
set_option maxHeartbeats 400000 in
theorem same_none0  : Calls Tryz.prog 55 #[.agg #[.int .i64 0, .int .u64 0, .string s, .int .i64 t.sec, .int .i64 t.nsec, .int .i64 t.off, .slice A len cap], .agg #[.int .i64 0, .int .u64 0, .string s', .int .i64 t'.sec, .int .i64 t'.nsec, .int .i64 t'.off, .slice A' len' cap']] w (YesEnd w) := by
  unfold YesEnd
  go_enter Tryz.func55, Tryz.ntmps55
  go_wp2
  go_ret
  exact ⟨rfl, (by repeat' (first | with_reducible assumption | with_reducible exact Below.refl _ _ | with_reducible refine Below.setCell ?_ ?_ _ | with_reducible refine Below.alloc ?_ ?_ _ | with_reducible refine Below.drew ?_ | with_reducible refine below_drewN ?_ _ | omega | (simp; done) | (simp; omega)))⟩

set_option maxRecDepth 100000 in
set_option maxHeartbeats 400000 in
theorem same_none12  : Calls Tryz.prog 55 #[.agg #[.int .i64 0, .int .u64 12, .string s, .int .i64 t.sec, .int .i64 t.nsec, .int .i64 t.off, .slice A len cap], .agg #[.int .i64 0, .int .u64 12, .string s', .int .i64 t'.sec, .int .i64 t'.nsec, .int .i64 t'.off, .slice A' len' cap']] w (YesEnd w) := by
  unfold YesEnd
  go_enter Tryz.func55, Tryz.ntmps55
  go_wp2
  go_ret
  exact ⟨rfl, (by repeat' (first | with_reducible assumption | with_reducible exact Below.refl _ _ | with_reducible refine Below.setCell ?_ ?_ _ | with_reducible refine Below.alloc ?_ ?_ _ | with_reducible refine Below.drew ?_ | with_reducible refine below_drewN ?_ _ | omega | (simp; done) | (simp; omega)))⟩

set_option maxRecDepth 100000 in
set_option maxHeartbeats 400000 in
theorem same_none14  : Calls Tryz.prog 55 #[.agg #[.int .i64 0, .int .u64 14, .string s, .int .i64 t.sec, .int .i64 t.nsec, .int .i64 t.off, .slice A len cap], .agg #[.int .i64 0, .int .u64 14, .string s', .int .i64 t'.sec, .int .i64 t'.nsec, .int .i64 t'.off, .slice A' len' cap']] w (YesEnd w) := by
  unfold YesEnd
  go_enter Tryz.func55, Tryz.ntmps55
  go_wp2
  go_ret
  exact ⟨rfl, (by repeat' (first | with_reducible assumption | with_reducible exact Below.refl _ _ | with_reducible refine Below.setCell ?_ ?_ _ | with_reducible refine Below.alloc ?_ ?_ _ | with_reducible refine Below.drew ?_ | with_reducible refine below_drewN ?_ _ | omega | (simp; done) | (simp; omega)))⟩

set_option maxRecDepth 100000 in
set_option maxHeartbeats 400000 in
theorem same_num6 : Calls Tryz.prog 55 #[.agg #[.int .i64 0, .int .u64 6, .string s, .int .i64 t.sec, .int .i64 t.nsec, .int .i64 t.off, .slice A len cap], .agg #[.int .i64 0, .int .u64 6, .string s', .int .i64 t.sec, .int .i64 t'.nsec, .int .i64 t'.off, .slice A' len' cap']] w (YesEnd w) := by
  unfold YesEnd
  go_enter Tryz.func55, Tryz.ntmps55
  go_wp2
  go_ret
  exact ⟨rfl, (by repeat' (first | with_reducible assumption | with_reducible exact Below.refl _ _ | with_reducible refine Below.setCell ?_ ?_ _ | with_reducible refine Below.alloc ?_ ?_ _ | with_reducible refine Below.drew ?_ | with_reducible refine below_drewN ?_ _ | omega | (simp; done) | (simp; omega)))⟩

set_option maxRecDepth 100000 in
set_option maxHeartbeats 400000 in
theorem same_num7 : Calls Tryz.prog 55 #[.agg #[.int .i64 0, .int .u64 7, .string s, .int .i64 t.sec, .int .i64 t.nsec, .int .i64 t.off, .slice A len cap], .agg #[.int .i64 0, .int .u64 7, .string s', .int .i64 t.sec, .int .i64 t'.nsec, .int .i64 t'.off, .slice A' len' cap']] w (YesEnd w) := by
  unfold YesEnd
  go_enter Tryz.func55, Tryz.ntmps55
  go_wp2
  go_ret
  exact ⟨rfl, (by repeat' (first | with_reducible assumption | with_reducible exact Below.refl _ _ | with_reducible refine Below.setCell ?_ ?_ _ | with_reducible refine Below.alloc ?_ ?_ _ | with_reducible refine Below.drew ?_ | with_reducible refine below_drewN ?_ _ | omega | (simp; done) | (simp; omega)))⟩

set_option maxRecDepth 100000 in
set_option maxHeartbeats 400000 in
theorem same_num8 : Calls Tryz.prog 55 #[.agg #[.int .i64 0, .int .u64 8, .string s, .int .i64 t.sec, .int .i64 t.nsec, .int .i64 t.off, .slice A len cap], .agg #[.int .i64 0, .int .u64 8, .string s', .int .i64 t.sec, .int .i64 t'.nsec, .int .i64 t'.off, .slice A' len' cap']] w (YesEnd w) := by
  unfold YesEnd
  go_enter Tryz.func55, Tryz.ntmps55
  go_wp2
  go_ret
  exact ⟨rfl, (by repeat' (first | with_reducible assumption | with_reducible exact Below.refl _ _ | with_reducible refine Below.setCell ?_ ?_ _ | with_reducible refine Below.alloc ?_ ?_ _ | with_reducible refine Below.drew ?_ | with_reducible refine below_drewN ?_ _ | omega | (simp; done) | (simp; omega)))⟩

set_option maxRecDepth 100000 in
set_option maxHeartbeats 400000 in
theorem same_other (h : ¬ (n = 0 ∨ n = 12 ∨ n = 14 ∨ n = 6 ∨ n = 7 ∨ n = 8 ∨ n = 13 ∨ n = 15)) : Calls Tryz.prog 55 #[.agg #[.int .i64 0, .int .u64 n, .string s, .int .i64 t.sec, .int .i64 t.nsec, .int .i64 t.off, .slice A len cap], .agg #[.int .i64 0, .int .u64 n, .string s, .int .i64 t'.sec, .int .i64 t'.nsec, .int .i64 t'.off, .slice A' len' cap']] w (YesEnd w) := by
  unfold YesEnd
  have h0 : ¬ n = 0 := fun e => h (by omega)
  have h12 : ¬ n = 12 := fun e => h (by omega)
  have h14 : ¬ n = 14 := fun e => h (by omega)
  have h6 : ¬ n = 6 := fun e => h (by omega)
  have h7 : ¬ n = 7 := fun e => h (by omega)
  have h8 : ¬ n = 8 := fun e => h (by omega)
  have h13 : ¬ n = 13 := fun e => h (by omega)
  have h15 : ¬ n = 15 := fun e => h (by omega)
  clear h
  go_enter Tryz.func55, Tryz.ntmps55
  go_wp2
  go_ret
  exact ⟨rfl, (by repeat' (first | with_reducible assumption | with_reducible exact Below.refl _ _ | with_reducible refine Below.setCell ?_ ?_ _ | with_reducible refine Below.alloc ?_ ?_ _ | with_reducible refine Below.drew ?_ | with_reducible refine below_drewN ?_ _ | omega | (simp; done) | (simp; omega)))⟩

set_option maxRecDepth 100000 in
set_option maxHeartbeats 400000 in
theorem same_source (hh : l.head = l'.head) (hl : RS w l A len) (hl' : RS w l' A' len') : Calls Tryz.prog 55 #[.agg #[.int .i64 0, .int .u64 13, .string s, .int .i64 t.sec, .int .i64 t.nsec, .int .i64 t.off, .slice A len cap], .agg #[.int .i64 0, .int .u64 13, .string s, .int .i64 t.sec, .int .i64 t'.nsec, .int .i64 t'.off, .slice A' len' cap']] w (YesEnd w) := by
  unfold YesEnd
  have Hl := Lib.hid hl
  have Hl' := Lib.hid (show RS w l' A' len' ∧ l'.head = l.head from ⟨hl', hh.symm⟩)
  clear hl hl' hh
  go_enter Tryz.func55, Tryz.ntmps55
  go_wp2
  go_quiet (first
      | (go_at_call 105; with_reducible refine head_quiet l _ A len cap _ ?_; exact Hl.out.keep (keeps_of_below (by repeat' (first | with_reducible assumption | with_reducible exact Below.refl _ _ | with_reducible refine Below.setCell ?_ ?_ _ | with_reducible refine Below.alloc ?_ ?_ _ | with_reducible refine Below.drew ?_ | with_reducible refine below_drewN ?_ _ | omega | (simp; done) | (simp; omega)))))
      | (go_at_call 105; with_reducible refine head_quiet_eq l' l.head Hl'.out.2 _ A' len' cap' _ ?_; exact Hl'.out.1.keep (keeps_of_below (by repeat' (first | with_reducible assumption | with_reducible exact Below.refl _ _ | with_reducible refine Below.setCell ?_ ?_ _ | with_reducible refine Below.alloc ?_ ?_ _ | with_reducible refine Below.drew ?_ | with_reducible refine below_drewN ?_ _ | omega | (simp; done) | (simp; omega))))))
  go_wp2
  go_ret
  exact ⟨by simp, (by repeat' (first | with_reducible assumption | with_reducible exact Below.refl _ _ | with_reducible refine Below.setCell ?_ ?_ _ | with_reducible refine Below.alloc ?_ ?_ _ | with_reducible refine Below.drew ?_ | with_reducible refine below_drewN ?_ _ | omega | (simp; done) | (simp; omega)))⟩

set_option maxRecDepth 100000 in
set_option maxHeartbeats 400000 in
theorem same_both (hh : l.head = l'.head) (hl : RS w l A len) (hl' : RS w l' A' len') : Calls Tryz.prog 55 #[.agg #[.int .i64 0, .int .u64 15, .string s, .int .i64 t.sec, .int .i64 t.nsec, .int .i64 t.off, .slice A len cap], .agg #[.int .i64 0, .int .u64 15, .string s, .int .i64 t'.sec, .int .i64 t'.nsec, .int .i64 t'.off, .slice A' len' cap']] w (YesEnd w) := by
  unfold YesEnd
  have Hl := Lib.hid hl
  have Hl' := Lib.hid (show RS w l' A' len' ∧ l'.head = l.head from ⟨hl', hh.symm⟩)
  clear hl hl' hh
  go_enter Tryz.func55, Tryz.ntmps55
  go_wp2
  go_quiet (first
      | (go_at_call 105; with_reducible refine head_quiet l _ A len cap _ ?_; exact Hl.out.keep (keeps_of_below (by repeat' (first | with_reducible assumption | with_reducible exact Below.refl _ _ | with_reducible refine Below.setCell ?_ ?_ _ | with_reducible refine Below.alloc ?_ ?_ _ | with_reducible refine Below.drew ?_ | with_reducible refine below_drewN ?_ _ | omega | (simp; done) | (simp; omega)))))
      | (go_at_call 105; with_reducible refine head_quiet_eq l' l.head Hl'.out.2 _ A' len' cap' _ ?_; exact Hl'.out.1.keep (keeps_of_below (by repeat' (first | with_reducible assumption | with_reducible exact Below.refl _ _ | with_reducible refine Below.setCell ?_ ?_ _ | with_reducible refine Below.alloc ?_ ?_ _ | with_reducible refine Below.drew ?_ | with_reducible refine below_drewN ?_ _ | omega | (simp; done) | (simp; omega))))))
  go_wp2
  go_ret
  exact ⟨by simp, (by repeat' (first | with_reducible assumption | with_reducible exact Below.refl _ _ | with_reducible refine Below.setCell ?_ ?_ _ | with_reducible refine Below.alloc ?_ ?_ _ | with_reducible refine Below.drew ?_ | with_reducible refine below_drewN ?_ _ | omega | (simp; done) | (simp; omega)))⟩

set_option maxRecDepth 100000 in
set_option maxHeartbeats 400000 in
theorem same_throws (hs : ¬ s = ByteArray.empty) : Calls Tryz.prog 55 #[.agg #[.int .i64 9, .int .u64 n, .string s, .int .i64 t.sec, .int .i64 t.nsec, .int .i64 t.off, .slice A len cap], .agg #[.int .i64 9, .int .u64 n', .string s, .int .i64 t'.sec, .int .i64 t'.nsec, .int .i64 t'.off, .slice A' len' cap']] w (YesEnd w) := by
  unfold YesEnd
  have hb := toList_ne hs
  go_enter Tryz.func55, Tryz.ntmps55
  go_wp2
  go_ret
  exact ⟨rfl, (by repeat' (first | with_reducible assumption | with_reducible exact Below.refl _ _ | with_reducible refine Below.setCell ?_ ?_ _ | with_reducible refine Below.alloc ?_ ?_ _ | with_reducible refine Below.drew ?_ | with_reducible refine below_drewN ?_ _ | omega | (simp; done) | (simp; omega)))⟩

set_option maxRecDepth 100000 in
set_option maxHeartbeats 400000 in
theorem same_valuer (ih : SameEV (.mk 9 n ByteArray.empty t l)) (hE : SameE l l') (hl : RS w l A len) (hl' : RS w l' A' len') : Calls Tryz.prog 55 #[.agg #[.int .i64 9, .int .u64 n, .string ByteArray.empty, .int .i64 t.sec, .int .i64 t.nsec, .int .i64 t.off, .slice A len cap], .agg #[.int .i64 9, .int .u64 n, .string ByteArray.empty, .int .i64 t'.sec, .int .i64 t'.nsec, .int .i64 t'.off, .slice A' len' cap']] w (YesEnd w) := by
  unfold YesEnd
  have Hih := Lib.hid (fun wx h1 h2 => ih (.mk 9 n ByteArray.empty t' l') wx A A' len cap len' cap' hE h1 h2)
  have Hl := Lib.hid hl
  have Hl' := Lib.hid hl'
  clear ih hl hl' hE
  go_enter Tryz.func55, Tryz.ntmps55
  go_wp2_with (go_at_call 106; refine (Hih.out _ (Hl.out.keep (keeps_of_below (by repeat' (first | with_reducible assumption | with_reducible exact Below.refl _ _ | with_reducible refine Below.setCell ?_ ?_ _ | with_reducible refine Below.alloc ?_ ?_ _ | with_reducible refine Below.drew ?_ | with_reducible refine below_drewN ?_ _ | omega | (simp; done) | (simp; omega))))) (Hl'.out.keep (keeps_of_below (by repeat' (first | with_reducible assumption | with_reducible exact Below.refl _ _ | with_reducible refine Below.setCell ?_ ?_ _ | with_reducible refine Below.alloc ?_ ?_ _ | with_reducible refine Below.drew ?_ | with_reducible refine below_drewN ?_ _ | omega | (simp; done) | (simp; omega)))))).mono ?_; rintro e w2 ⟨rfl, hb2⟩; have hB2 := keeps_below (show Below w.heap.size w _ from (by repeat' (first | with_reducible assumption | with_reducible exact Below.refl _ _ | with_reducible refine Below.setCell ?_ ?_ _ | with_reducible refine Below.alloc ?_ ?_ _ | with_reducible refine Below.drew ?_ | with_reducible refine below_drewN ?_ _ | omega | (simp; done) | (simp; omega)))) hb2)
  go_ret
  exact ⟨rfl, hB2⟩

set_option maxRecDepth 100000 in
set_option maxHeartbeats 400000 in
theorem same_group (ih : SameLV l) (hE : SameL l l') (hlen : l.len ≤ 140737488355328) (hl : RS w l A len) (hl' : RS w l' A' len') : Calls Tryz.prog 55 #[.agg #[.int .i64 8, .int .u64 n, .string s, .int .i64 t.sec, .int .i64 t.nsec, .int .i64 t.off, .slice A len cap], .agg #[.int .i64 8, .int .u64 n', .string s', .int .i64 t'.sec, .int .i64 t'.nsec, .int .i64 t'.off, .slice A' len' cap']] w (YesEnd w) := by
  unfold YesEnd
  have Hih := Lib.hid (fun wx h1 h2 => ih l' wx A A' len cap len' cap' hE hlen h1 h2)
  have Hl := Lib.hid hl
  have Hl' := Lib.hid hl'
  clear ih hl hl' hE hlen
  go_enter Tryz.func55, Tryz.ntmps55
  go_wp2_with (go_at_call 18; refine (Hih.out _ (Hl.out.keep (keeps_of_below (by repeat' (first | with_reducible assumption | with_reducible exact Below.refl _ _ | with_reducible refine Below.setCell ?_ ?_ _ | with_reducible refine Below.alloc ?_ ?_ _ | with_reducible refine Below.drew ?_ | with_reducible refine below_drewN ?_ _ | omega | (simp; done) | (simp; omega))))) (Hl'.out.keep (keeps_of_below (by repeat' (first | with_reducible assumption | with_reducible exact Below.refl _ _ | with_reducible refine Below.setCell ?_ ?_ _ | with_reducible refine Below.alloc ?_ ?_ _ | with_reducible refine Below.drew ?_ | with_reducible refine below_drewN ?_ _ | omega | (simp; done) | (simp; omega)))))).mono ?_; rintro e w2 ⟨rfl, hb2⟩; have hB2 := keeps_below (show Below w.heap.size w _ from (by repeat' (first | with_reducible assumption | with_reducible exact Below.refl _ _ | with_reducible refine Below.setCell ?_ ?_ _ | with_reducible refine Below.alloc ?_ ?_ _ | with_reducible refine Below.drew ?_ | with_reducible refine below_drewN ?_ _ | omega | (simp; done) | (simp; omega)))) hb2)
  go_ret
  exact ⟨rfl, hB2⟩

end

end Go.Proofs.YtihhgnbgejjijaaGreatDoor.Va

/- When package spec has a value that was read be one that can be read: lists (spec.VaSameAll), ends, and all kinds. -/
namespace Go.Proofs.YtihhgnbgejjijaaGreatDoor.Va
set_option linter.unusedVariables false
set_option linter.unusedSimpArgs false
open Go Go.RowKit

/-- One round. -/
def SameRnd (w : World) (l : GAttrs) (b o b' o' : Nat) (slot : Value) (wr : World) : Prop :=
  ∃ (k : Nat) (rest rest' : GAttrs), k + rest.len = l.len ∧ rest.len = rest'.len ∧ slot = .int .i64 k ∧ SameL rest rest' ∧ RAs w rest b (o + k * 8) ∧ RAs w rest' b' (o' + k * 8) ∧ rest.size ≤ l.size ∧ Below w.heap.size w wr

theorem sameL_len : ∀ l l' : GAttrs, SameL l l' → l.len = l'.len
  | .nil, .nil, _ => rfl
  | .nil, .cons _ _ _, h => by simp only [SameL] at h
  | .cons _ _ _, .nil, h => by simp only [SameL] at h
  | .cons k v r, .cons k' v' r', h => by
    simp only [SameL] at h
    simp only [GAttrs.len]
    rw [sameL_len r r' h.2.2]

set_option maxRecDepth 100000 in
set_option maxHeartbeats 400000 in
theorem same_all_of (l : GAttrs) (ih : ∀ d : GVal, d.size ≤ l.size → SameV d) : SameLV l := by
  intro l' w A A' len cap len' cap' hE hlen hl hl'
  have hll := sameL_len l l' hE
  obtain ⟨hl0, hl1⟩ := hl
  obtain ⟨hl0', hl1'⟩ := hl'
  obtain rfl : len' = len := by omega
  generalize hpost : YesEnd w = post
  have Hpost := Lib.hid hpost
  clear hpost
  by_cases hz : len' = 0
  · subst hz
    clear hl0 hl1 hl0' hl1' ih hE hlen hll
    go_enter Tryz.func18, Tryz.ntmps18
    go_wp2
    go_loopw [14] (fun a wr => a = .int .i64 0 ∧ Below w.heap.size w wr) (fun _ _ => 0)
    case atStart => exact ⟨rfl, (by repeat' (first | with_reducible assumption | with_reducible exact Below.refl _ _ | with_reducible refine Below.setCell ?_ ?_ _ | with_reducible refine Below.alloc ?_ ?_ _ | with_reducible refine Below.drew ?_ | with_reducible refine below_drewN ?_ _ | omega | (simp; done) | (simp; omega)))⟩
    case round =>
      obtain ⟨rfl, hB⟩ := hrel
      go_wp2
      have := Hpost.out
      subst this
      exact ⟨rfl, hB⟩
  · obtain ⟨b, o, rfl, hr⟩ := hl1 (by omega)
    obtain ⟨b', o', rfl, hr'⟩ := hl1' (by omega)
    clear hl1 hl1'
    have Hl0 := Lib.hid hl0
    have Hl0' := Lib.hid hl0'
    have Hll := Lib.hid hll
    clear hl0 hl0' hll
    go_enter Tryz.func18, Tryz.ntmps18
    go_wp2
    go_loopw [14] (fun a wr => SameRnd w l b o b' o' a wr) (fun a _ => len' - (intOf a).toNat)
    case atStart => exact ⟨0, l, l', by omega, Hll.out, rfl, hE, hr, hr', Nat.le_refl _, Below.refl _ _⟩
    case round =>
      obtain ⟨k, rest, rest', hk, hkk, rfl, hval, hrs, hrs', hrz, hB⟩ := hrel
      have hk' := Hl0.out
      cases rest with
      | nil =>
        have hke : ¬ ((k : Int) < (len' : Int)) := by simp [GAttrs.len] at hk; omega
        have HB := Lib.hid hB
        clear hk hkk hval hrs hrs' hrz hB hE
        go_wp2
        have := Hpost.out
        subst this
        exact ⟨rfl, HB.out⟩
      | cons key v r =>
        cases rest' with
        | nil => simp [GAttrs.len] at hkk
        | cons key' u r' =>
        simp only [SameL] at hval
        obtain ⟨rfl, hvu, hrr'⟩ := hval
        have hlt : k < len' := by simp only [GAttrs.len] at hk; omega
        have hkn : k + 1 + r.len = l.len := by simp only [GAttrs.len] at hk; omega
        have hrr : r.len = r'.len := by simp only [GAttrs.len] at hkk; omega
        have hvs : v.size + r.size ≤ l.size := by simpa only [GAttrs.size] using hrz
        have hrle : r.size ≤ l.size := by omega
        have Hih := Lib.hid (fun wx A A' ln cp ln' cp' => ih v (by omega) u wx A A' ln cp ln' cp' hvu)
        have HRR := Lib.hid hrr'
        have hK := keeps_of_below hB
        unfold RAs at hrs hrs'
        obtain ⟨hkey, hv, hr1⟩ := hrs
        obtain ⟨hkey', hu, hr1'⟩ := hrs'
        have Hr := Lib.hid hr1
        have Hr' := Lib.hid hr1'
        have hkey := hK.cell hkey
        have hkey' := hK.cell hkey'
        have hv := hv.keep hK
        have hu := hu.keep hK
        have hbb : b < wr.heap.size := World.block_lt_of_cell? wr _ hkey
        have hbb' : b' < wr.heap.size := World.block_lt_of_cell? wr _ hkey'
        obtain ⟨vk, vn, vs, vt, vl⟩ := v
        obtain ⟨uk, un, us, ut, ul⟩ := u
        unfold RVal at hv hu
        obtain ⟨c0, c1, c2, c3, c4, c5, Av, lenv, capv, c6, hlenv, hAv⟩ := hv
        obtain ⟨d0, d1, d2, d3, d4, d5, Au, lenu, capu, d6, hlenu, hAu⟩ := hu
        have HSv := Lib.hid (show RS wr vl Av lenv from ⟨hlenv, hAv⟩)
        have HSu := Lib.hid (show RS wr ul Au lenu from ⟨hlenu, hAu⟩)
        have HB := Lib.hid hB
        clear hlenv hAv hlenu hAu hr1 hr1' hrz hk hkk hK hB ih hr hr' hvs hk' hvu hrr' hE
        have q4 : b' < wr.heap.size + 1 := by omega
        have q5 : b' ≠ wr.heap.size := by omega
        have q6 : wr.heap.size ≠ b' := by omega
        go_wp2
        go_region_held3 (fun w' => w'.cell? ⟨wr.heap.size, 0, none⟩ = some (.string key) ∧ w'.cell? ⟨wr.heap.size, 1, none⟩ = some (.int .i64 vk) ∧ w'.cell? ⟨wr.heap.size, 2, none⟩ = some (.int .u64 vn) ∧ w'.cell? ⟨wr.heap.size, 3, none⟩ = some (.string vs) ∧ w'.cell? ⟨wr.heap.size, 4, none⟩ = some (.int .i64 vt.sec) ∧ w'.cell? ⟨wr.heap.size, 5, none⟩ = some (.int .i64 vt.nsec) ∧ w'.cell? ⟨wr.heap.size, 6, none⟩ = some (.int .i64 vt.off) ∧ w'.cell? ⟨wr.heap.size, 7, none⟩ = some (.slice Av lenv capv) ∧ w'.cell? ⟨b', o' + k * 8, none⟩ = some (.string key) ∧ w'.cell? ⟨b', o' + k * 8 + 1, none⟩ = some (.int .i64 uk) ∧ w'.cell? ⟨b', o' + k * 8 + 1 + 1, none⟩ = some (.int .u64 un) ∧ w'.cell? ⟨b', o' + k * 8 + 1 + 2, none⟩ = some (.string us) ∧ w'.cell? ⟨b', o' + k * 8 + 1 + 3, none⟩ = some (.int .i64 ut.sec) ∧ w'.cell? ⟨b', o' + k * 8 + 1 + 4, none⟩ = some (.int .i64 ut.nsec) ∧ w'.cell? ⟨b', o' + k * 8 + 1 + 5, none⟩ = some (.int .i64 ut.off) ∧ w'.cell? ⟨b', o' + k * 8 + 1 + 6, none⟩ = some (.slice Au lenu capu)) (go_keep) (first | (go_at_call 55; go_loud (refine (Hih.out _ _ _ _ _ _ _ (HSv.out.keep (keeps_of_below (by repeat' (first | with_reducible assumption | with_reducible exact Below.refl _ _ | with_reducible refine Below.setCell ?_ ?_ _ | with_reducible refine Below.alloc ?_ ?_ _ | with_reducible refine Below.drew ?_ | with_reducible refine below_drewN ?_ _ | omega | (simp; done) | (simp; omega))))) (HSu.out.keep (keeps_of_below (by repeat' (first | with_reducible assumption | with_reducible exact Below.refl _ _ | with_reducible refine Below.setCell ?_ ?_ _ | with_reducible refine Below.alloc ?_ ?_ _ | with_reducible refine Below.drew ?_ | with_reducible refine below_drewN ?_ _ | omega | (simp; done) | (simp; omega)))))).mono ?_); rintro e w3 ⟨rfl, hb3⟩; obtain ⟨hc3, hf3⟩ := bcell hb3))
        have HBe := Lib.hid (keeps_below (w := w) (wr := (wr.alloc _).drew) (HB.out.alloc HB.out.size _).drew hb3)
        clear hc3 hf3 hb3
        go_wp2
        refine ⟨⟨k + 1, r, r', hkn, hrr, by push_cast; rfl, HRR.out, ?_, ?_, by omega, HBe.out⟩, ?_⟩
        · have := Hr.out
          rwa [show o + (k + 1) * 8 = o + k * 8 + 8 by omega]
        · have := Hr'.out
          rwa [show o' + (k + 1) * 8 = o' + k * 8 + 8 by omega]
        · simp only [intOf]; omega

set_option maxRecDepth 100000 in
set_option maxHeartbeats 400000 in
theorem same_end (d : GVal) (ih : ∀ v : GVal, v.size ≤ d.l.size → SameV v) : SameEV d := by
  intro d' w A A' len cap len' cap' hE hl hl'
  obtain ⟨k, n, s, t, l⟩ := d
  obtain ⟨k', n', s', t', l'⟩ := d'
  simp only [l_mk] at hE hl hl' ih
  cases l with
  | nil => simp only [SameE] at hE
  | cons key v r =>
  cases l' with
  | nil => simp only [SameE] at hE
  | cons key' u r' =>
  simp only [SameE] at hE
  have Hih := Lib.hid (fun wx A A' ln cp ln' cp' => ih v (by simp only [GAttrs.size]; omega) u wx A A' ln cp ln' cp' hE)
  obtain ⟨hl0, hl1⟩ := hl
  obtain ⟨hl0', hl1'⟩ := hl'
  have hp : 0 < len := by simp only [GAttrs.len] at hl0; omega
  have hp' : 0 < len' := by simp only [GAttrs.len] at hl0'; omega
  obtain ⟨b, o, rfl, hr⟩ := hl1 hp
  obtain ⟨b', o', rfl, hr'⟩ := hl1' hp'
  unfold RAs at hr hr'
  obtain ⟨_, hv, _⟩ := hr
  obtain ⟨_, hu, _⟩ := hr'
  obtain ⟨vk, vn, vs, vt, vl⟩ := v
  obtain ⟨uk, un, us, ut, ul⟩ := u
  unfold RVal at hv hu
  obtain ⟨c0, c1, c2, c3, c4, c5, Av, lenv, capv, c6, hlenv, hAv⟩ := hv
  obtain ⟨d0, d1, d2, d3, d4, d5, Au, lenu, capu, d6, hlenu, hAu⟩ := hu
  have HSv := Lib.hid (show RS w vl Av lenv from ⟨hlenv, hAv⟩)
  have HSu := Lib.hid (show RS w ul Au lenu from ⟨hlenu, hAu⟩)
  have hbb : b < w.heap.size := World.block_lt_of_cell? w _ c0
  have hbb' : b' < w.heap.size := World.block_lt_of_cell? w _ d0
  have q0 : ¬ b = w.heap.size := by omega
  have q1 : ¬ b' = w.heap.size := by omega
  have q2 : ¬ b = w.heap.size + 1 := by omega
  have q3 : ¬ b' = w.heap.size + 1 := by omega
  have q4 : b < w.heap.size + 1 := by omega
  have q5 : b' < w.heap.size + 1 := by omega
  have q6 : b < w.heap.size + 1 + 1 := by omega
  have q7 : b' < w.heap.size + 1 + 1 := by omega
  have q8 : b < w.heap.size + 1 + 1 + 1 := by omega
  have q9 : b' < w.heap.size + 1 + 1 + 1 := by omega
  clear hlenv hAv hlenu hAu hl0 hl0' hl1 hl1' ih hE
  unfold YesEnd
  simp only [vVal, kind_mk, n_mk, s_mk, t_mk, l_mk] at Hih ⊢
  go_enter Tryz.func106, Tryz.ntmps106
  go_wp2_with (go_at_call 55; refine (Hih.out _ _ _ _ _ _ _ (HSv.out.keep (keeps_of_below (by repeat' (first | with_reducible assumption | with_reducible exact Below.refl _ _ | with_reducible refine Below.setCell ?_ ?_ _ | with_reducible refine Below.alloc ?_ ?_ _ | with_reducible refine Below.drew ?_ | with_reducible refine below_drewN ?_ _ | omega | (simp; done) | (simp; omega))))) (HSu.out.keep (keeps_of_below (by repeat' (first | with_reducible assumption | with_reducible exact Below.refl _ _ | with_reducible refine Below.setCell ?_ ?_ _ | with_reducible refine Below.alloc ?_ ?_ _ | with_reducible refine Below.drew ?_ | with_reducible refine below_drewN ?_ _ | omega | (simp; done) | (simp; omega)))))).mono ?_; rintro e w3 ⟨rfl, hb3⟩; have hB3 := keeps_below (show Below w.heap.size w _ from (by repeat' (first | with_reducible assumption | with_reducible exact Below.refl _ _ | with_reducible refine Below.setCell ?_ ?_ _ | with_reducible refine Below.alloc ?_ ?_ _ | with_reducible refine Below.drew ?_ | with_reducible refine below_drewN ?_ _ | omega | (simp; done) | (simp; omega)))) hb3)
  go_ret
  exact ⟨rfl, hB3⟩

theorem same_val (d : GVal) (hd : d.l.len ≤ 140737488355328) (ih : ∀ v : GVal, v.size < d.size → SameV v) : SameV d := by
  obtain ⟨k, n, s, t, l⟩ := d
  rintro ⟨k', n', s', t', l'⟩ w A A' len cap len' cap' hE hl hl'
  simp only [l_mk] at hl hl' hd
  simp only [vVal, kind_mk, n_mk, s_mk, t_mk, l_mk]
  have ihl : ∀ v : GVal, v.size ≤ l.size → SameV v := fun v hv => ih v (by simp only [GVal.size]; omega)
  simp only [Same] at hE
  obtain ⟨rfl, hE⟩ := hE
  by_cases h0 : k = 0
  · subst h0
    rw [if_pos rfl] at hE
    obtain ⟨rfl, hE⟩ := hE
    by_cases hz : n = 0 ∨ n = 12 ∨ n = 14
    · rcases hz with rfl | rfl | rfl
      · exact same_none0 _ _ _ _ _ _ _ _ _ _ _
      · exact same_none12 _ _ _ _ _ _ _ _ _ _ _
      · exact same_none14 _ _ _ _ _ _ _ _ _ _ _
    rw [if_neg hz] at hE
    by_cases h6 : n = 6 ∨ n = 7 ∨ n = 8
    · rw [if_pos h6] at hE
      rw [← hE]
      rcases h6 with rfl | rfl | rfl
      · exact same_num6 _ _ _ _ _ _ _ _ _ _ _
      · exact same_num7 _ _ _ _ _ _ _ _ _ _ _
      · exact same_num8 _ _ _ _ _ _ _ _ _ _ _
    rw [if_neg h6] at hE
    by_cases h13 : n = 13
    · subst h13
      rw [if_pos rfl] at hE
      obtain ⟨rfl, ht, hh⟩ := hE
      rw [← ht]
      exact same_source _ _ _ _ _ _ _ _ _ _ _ _ hh hl hl'
    rw [if_neg h13] at hE
    by_cases h15 : n = 15
    · subst h15
      rw [if_pos rfl] at hE
      obtain ⟨rfl, hh⟩ := hE
      exact same_both _ _ _ _ _ _ _ _ _ _ _ _ hh hl hl'
    rw [if_neg h15] at hE
    subst hE
    exact same_other _ _ _ _ _ _ _ _ _ _ _ (by omega)
  rw [if_neg h0] at hE
  by_cases h5 : k = 5
  · subst h5; rw [if_pos rfl] at hE; subst hE; exact same_str _ _ _ _ _ _ _ _ _ _ _ _
  rw [if_neg h5] at hE
  by_cases h6 : k = 6
  · subst h6; rw [if_pos rfl] at hE; subst hE; exact same_time _ _ _ _ _ _ _ _ _ _ _ _
  rw [if_neg h6] at hE
  by_cases h8 : k = 8
  · subst h8; rw [if_pos rfl] at hE; exact same_group _ _ _ _ _ _ _ _ _ _ _ _ _ _ _ (same_all_of l ihl) hE hd hl hl'
  rw [if_neg h8] at hE
  by_cases h9 : k = 9
  · subst h9
    rw [if_pos rfl] at hE
    obtain ⟨rfl, hE⟩ := hE
    by_cases hs : s = ByteArray.empty
    · subst hs
      rcases hE with hE | ⟨rfl, hE⟩
      · exact absurd rfl hE
      · exact same_valuer _ _ _ _ _ _ _ _ _ _ _ _ (same_end _ ihl) hE hl hl'
    · exact same_throws _ _ _ _ _ _ _ _ _ _ _ _ hs
  rw [if_neg h9] at hE
  subst hE
  exact same_rest _ _ _ _ _ _ _ _ _ _ _ _ k h5 h6 h8 h0 h9

theorem same_sizes : ∀ (N : Nat) (d : GVal), d.size ≤ N → N ≤ 3000000 → SameV d
  | 0, d, h, _ => absurd h (by have := size_pos d; omega)
  | N + 1, d, h, hN => same_val d (by have h1 := len_le_size d.l; obtain ⟨k, n, s, t, l⟩ := d; simp only [GVal.size, l_mk] at h h1 ⊢; omega) (fun v hv => same_sizes N v (by omega) (by omega))
/-- spec.VaSame, where it says yes. -/
theorem same_any_v (d : GVal) (h : d.size ≤ 3000000) : SameV d := same_sizes d.size d (Nat.le_refl _) h
/-- spec.VaSameAll, where it says yes. -/
theorem same_any_l (l : GAttrs) (h : l.size ≤ 3000000) : SameLV l := same_all_of l (fun d hd => same_any_v d (by omega))

end Go.Proofs.YtihhgnbgejjijaaGreatDoor.Va
