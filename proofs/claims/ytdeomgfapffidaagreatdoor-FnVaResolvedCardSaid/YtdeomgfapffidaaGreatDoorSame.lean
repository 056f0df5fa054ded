/- When package spec has a value that was read be one that can be read (spec.VaSame, vaSameEnd, VaSameAll): the walks, where it says yes. -/
import Derived.Test.YtdeomgfapffidaaGreatDoorHead
import Derived.Test.YtdeomgfapffidaaGreatDoorFits
import Derived.Deep.RegionHeld3
namespace Go.Proofs.YtdeomgfapffidaaGreatDoor.Va
set_option linter.unusedVariables false
set_option linter.unusedSimpArgs false
open Go Go.RowKit

mutual
/-- spec.VaSame says yes. -/
def Same : GVal → GVal → Prop
  | .mk k n s t l, .mk k' n' s' t' l' =>
    k = k' ∧
    (if k = 0 then n = n' ∧ (if n = 0 ∨ n = 12 ∨ n = 14 then True else if n = 6 ∨ n = 7 ∨ n = 8 then t.sec = t'.sec else if n = 13 then s = s' ∧ t.sec = t'.sec ∧ l.head = l'.head else if n = 15 then s = s' ∧ l.head = l'.head else s = s')
     else if k = 5 then s = s'
     else if k = 6 then t = t'
     else if k = 8 then SameL l l'
     else if k = 9 then s = s' ∧ (s ≠ ByteArray.empty ∨ (n = n' ∧ SameE l l'))
     else n = n')
/-- spec.vaSameEnd says yes. -/
def SameE : GAttrs → GAttrs → Prop
  | .cons _ v _, .cons _ v' _ => Same v v'
  | _, _ => False
/-- spec.VaSameAll says yes. -/
def SameL : GAttrs → GAttrs → Prop
  | .nil, .nil => True
  | .cons k v r, .cons k' v' r' => k = k' ∧ Same v v' ∧ SameL r r'
  | _, _ => False
end

/-- The contract of spec.VaSame. -/
def SameV (d : GVal) : Prop := ∀ (d' : GVal) (w : World) (A A' : Option Addr) (len cap len' cap' : Nat), Same d d' → RS w d.l A len → RS w d'.l A' len' →
  Calls Tryz.prog 18 #[vVal d A len cap, vVal d' A' len' cap'] w (YesEnd w)
def SameLV (l : GAttrs) : Prop := ∀ (l' : GAttrs) (w : World) (A A' : Option Addr) (len cap len' cap' : Nat), SameL l l' → l.len ≤ 140737488355328 → RS w l A len → RS w l' A' len' →
  Calls Tryz.prog 32 #[.slice A len cap, .slice A' len' cap'] w (YesEnd w)
def SameEV (d : GVal) : Prop := ∀ (d' : GVal) (w : World) (A A' : Option Addr) (len cap len' cap' : Nat), SameE d.l d'.l → RS w d.l A len → RS w d'.l A' len' →
  Calls Tryz.prog 43 #[vVal d A len cap, vVal d' A' len' cap'] w (YesEnd w)

section
variable (n n' : Int) (s s' : ByteArray) (t t' : GTime) (l l' : GAttrs) (w : World) (A A' : Option Addr) (len cap len' cap' : Nat)

set_option maxRecDepth 100000 in
set_option maxHeartbeats 400000 in
theorem same_rest (k : Int) (h5 : ¬ k = 5) (h6 : ¬ k = 6) (h8 : ¬ k = 8) (h0 : ¬ k = 0) (h9 : ¬ k = 9) : Calls Tryz.prog 18 #[.agg #[.int .i64 k, .int .u64 n, .string s, .int .i64 t.sec, .int .i64 t.nsec, .int .i64 t.off, .slice A len cap], .agg #[.int .i64 k, .int .u64 n, .string s', .int .i64 t'.sec, .int .i64 t'.nsec, .int .i64 t'.off, .slice A' len' cap']] w (YesEnd w) := by
  unfold YesEnd
  go_enter Tryz.func18, Tryz.ntmps18
  go_wp2
  go_ret
  exact ⟨rfl, (by repeat' (first | with_reducible assumption | with_reducible exact Below.refl _ _ | with_reducible refine Below.setCell ?_ ?_ _ | with_reducible refine Below.alloc ?_ ?_ _ | with_reducible refine Below.drew ?_ | with_reducible refine below_drewN ?_ _ | omega | (simp; done) | (simp; omega)))⟩

set_option maxRecDepth 100000 in
set_option maxHeartbeats 400000 in
theorem same_str  : Calls Tryz.prog 18 #[.agg #[.int .i64 5, .int .u64 n, .string s, .int .i64 t.sec, .int .i64 t.nsec, .int .i64 t.off, .slice A len cap], .agg #[.int .i64 5, .int .u64 n', .string s, .int .i64 t'.sec, .int .i64 t'.nsec, .int .i64 t'.off, .slice A' len' cap']] w (YesEnd w) := by
  unfold YesEnd
  go_enter Tryz.func18, Tryz.ntmps18
  go_wp2
  go_ret
  exact ⟨rfl, (by repeat' (first | with_reducible assumption | with_reducible exact Below.refl _ _ | with_reducible refine Below.setCell ?_ ?_ _ | with_reducible refine Below.alloc ?_ ?_ _ | with_reducible refine Below.drew ?_ | with_reducible refine below_drewN ?_ _ | omega | (simp; done) | (simp; omega)))⟩

set_option maxRecDepth 100000 in
set_option maxHeartbeats 400000 in
theorem same_time  : Calls Tryz.prog 18 #[.agg #[.int .i64 6, .int .u64 n, .string s, .int .i64 t.sec, .int .i64 t.nsec, .int .i64 t.off, .slice A len cap], .agg #[.int .i64 6, .int .u64 n', .string s', .int .i64 t.sec, .int .i64 t.nsec, .int .i64 t.off, .slice A' len' cap']] w (YesEnd w) := by
  unfold YesEnd
  go_enter Tryz.func18, Tryz.ntmps18
  go_wp2
  go_ret
  exact ⟨rfl, (by repeat' (first | with_reducible assumption | with_reducible exact Below.refl _ _ | with_reducible refine Below.setCell ?_ ?_ _ | with_reducible refine Below.alloc ?_ ?_ _ | with_reducible refine Below.drew ?_ | with_reducible refine below_drewN ?_ _ | omega | (simp; done) | (simp; omega)))⟩

set_option maxRecDepth 100000 in
set_option maxHeartbeats 400000 in
theorem same_none0  : Calls Tryz.prog 18 #[.agg #[.int .i64 0, .int .u64 0, .string s, .int .i64 t.sec, .int .i64 t.nsec, .int .i64 t.off, .slice A len cap], .agg #[.int .i64 0, .int .u64 0, .string s', .int .i64 t'.sec, .int .i64 t'.nsec, .int .i64 t'.off, .slice A' len' cap']] w (YesEnd w) := by
  unfold YesEnd
  go_enter Tryz.func18, Tryz.ntmps18
  go_wp2
  go_ret
  exact ⟨rfl, (by repeat' (first | with_reducible assumption | with_reducible exact Below.refl _ _ | with_reducible refine Below.setCell ?_ ?_ _ | with_reducible refine Below.alloc ?_ ?_ _ | with_reducible refine Below.drew ?_ | with_reducible refine below_drewN ?_ _ | omega | (simp; done) | (simp; omega)))⟩

set_option maxRecDepth 100000 in
set_option maxHeartbeats 400000 in
theorem same_none12  : Calls Tryz.prog 18 #[.agg #[.int .i64 0, .int .u64 12, .string s, .int .i64 t.sec, .int .i64 t.nsec, .int .i64 t.off, .slice A len cap], .agg #[.int .i64 0, .int .u64 12, .string s', .int .i64 t'.sec, .int .i64 t'.nsec, .int .i64 t'.off, .slice A' len' cap']] w (YesEnd w) := by
  unfold YesEnd
  go_enter Tryz.func18, Tryz.ntmps18
  go_wp2
  go_ret
  exact ⟨rfl, (by repeat' (first | with_reducible assumption | with_reducible exact Below.refl _ _ | with_reducible refine Below.setCell ?_ ?_ _ | with_reducible refine Below.alloc ?_ ?_ _ | with_reducible refine Below.drew ?_ | with_reducible refine below_drewN ?_ _ | omega | (simp; done) | (simp; omega)))⟩

set_option maxRecDepth 100000 in
set_option maxHeartbeats 400000 in
theorem same_none14  : Calls Tryz.prog 18 #[.agg #[.int .i64 0, .int .u64 14, .string s, .int .i64 t.sec, .int .i64 t.nsec, .int .i64 t.off, .slice A len cap], .agg #[.int .i64 0, .int .u64 14, .string s', .int .i64 t'.sec, .int .i64 t'.nsec, .int .i64 t'.off, .slice A' len' cap']] w (YesEnd w) := by
  unfold YesEnd
  go_enter Tryz.func18, Tryz.ntmps18
  go_wp2
  go_ret
  exact ⟨rfl, (by repeat' (first | with_reducible assumption | with_reducible exact Below.refl _ _ | with_reducible refine Below.setCell ?_ ?_ _ | with_reducible refine Below.alloc ?_ ?_ _ | with_reducible refine Below.drew ?_ | with_reducible refine below_drewN ?_ _ | omega | (simp; done) | (simp; omega)))⟩

set_option maxRecDepth 100000 in
set_option maxHeartbeats 400000 in
theorem same_num6 : Calls Tryz.prog 18 #[.agg #[.int .i64 0, .int .u64 6, .string s, .int .i64 t.sec, .int .i64 t.nsec, .int .i64 t.off, .slice A len cap], .agg #[.int .i64 0, .int .u64 6, .string s', .int .i64 t.sec, .int .i64 t'.nsec, .int .i64 t'.off, .slice A' len' cap']] w (YesEnd w) := by
  unfold YesEnd
  go_enter Tryz.func18, Tryz.ntmps18
  go_wp2
  go_ret
  exact ⟨rfl, (by repeat' (first | with_reducible assumption | with_reducible exact Below.refl _ _ | with_reducible refine Below.setCell ?_ ?_ _ | with_reducible refine Below.alloc ?_ ?_ _ | with_reducible refine Below.drew ?_ | with_reducible refine below_drewN ?_ _ | omega | (simp; done) | (simp; omega)))⟩

set_option maxRecDepth 100000 in
set_option maxHeartbeats 400000 in
theorem same_num7 : Calls Tryz.prog 18 #[.agg #[.int .i64 0, .int .u64 7, .string s, .int .i64 t.sec, .int .i64 t.nsec, .int .i64 t.off, .slice A len cap], .agg #[.int .i64 0, .int .u64 7, .string s', .int .i64 t.sec, .int .i64 t'.nsec, .int .i64 t'.off, .slice A' len' cap']] w (YesEnd w) := by
  unfold YesEnd
  go_enter Tryz.func18, Tryz.ntmps18
  go_wp2
  go_ret
  exact ⟨rfl, (by repeat' (first | with_reducible assumption | with_reducible exact Below.refl _ _ | with_reducible refine Below.setCell ?_ ?_ _ | with_reducible refine Below.alloc ?_ ?_ _ | with_reducible refine Below.drew ?_ | with_reducible refine below_drewN ?_ _ | omega | (simp; done) | (simp; omega)))⟩

set_option maxRecDepth 100000 in
set_option maxHeartbeats 400000 in
theorem same_num8 : Calls Tryz.prog 18 #[.agg #[.int .i64 0, .int .u64 8, .string s, .int .i64 t.sec, .int .i64 t.nsec, .int .i64 t.off, .slice A len cap], .agg #[.int .i64 0, .int .u64 8, .string s', .int .i64 t.sec, .int .i64 t'.nsec, .int .i64 t'.off, .slice A' len' cap']] w (YesEnd w) := by
  unfold YesEnd
  go_enter Tryz.func18, Tryz.ntmps18
  go_wp2
  go_ret
  exact ⟨rfl, (by repeat' (first | with_reducible assumption | with_reducible exact Below.refl _ _ | with_reducible refine Below.setCell ?_ ?_ _ | with_reducible refine Below.alloc ?_ ?_ _ | with_reducible refine Below.drew ?_ | with_reducible refine below_drewN ?_ _ | omega | (simp; done) | (simp; omega)))⟩

set_option maxRecDepth 100000 in
set_option maxHeartbeats 400000 in
theorem same_other (h : ¬ (n = 0 ∨ n = 12 ∨ n = 14 ∨ n = 6 ∨ n = 7 ∨ n = 8 ∨ n = 13 ∨ n = 15)) : Calls Tryz.prog 18 #[.agg #[.int .i64 0, .int .u64 n, .string s, .int .i64 t.sec, .int .i64 t.nsec, .int .i64 t.off, .slice A len cap], .agg #[.int .i64 0, .int .u64 n, .string s, .int .i64 t'.sec, .int .i64 t'.nsec, .int .i64 t'.off, .slice A' len' cap']] w (YesEnd w) := by
  unfold YesEnd
  have h0 : ¬ n = 0 := fun e => h (by omega)
  have h12 : ¬ n = 12 := fun e => h (by omega)
  have h14 : ¬ n = 14 := fun e => h (by omega)
  have h6 : ¬ n = 6 := fun e => h (by omega)
  have h7 : ¬ n = 7 := fun e => h (by omega)
  have h8 : ¬ n = 8 := fun e => h (by omega)
  have h13 : ¬ n = 13 := fun e => h (by omega)
  have h15 : ¬ n = 15 := fun e => h (by omega)
  clear h
  go_enter Tryz.func18, Tryz.ntmps18
  go_wp2
  go_ret
  exact ⟨rfl, (by repeat' (first | with_reducible assumption | with_reducible exact Below.refl _ _ | with_reducible refine Below.setCell ?_ ?_ _ | with_reducible refine Below.alloc ?_ ?_ _ | with_reducible refine Below.drew ?_ | with_reducible refine below_drewN ?_ _ | omega | (simp; done) | (simp; omega)))⟩

set_option maxRecDepth 100000 in
set_option maxHeartbeats 400000 in
theorem same_source (hh : l.head = l'.head) (hl : RS w l A len) (hl' : RS w l' A' len') : Calls Tryz.prog 18 #[.agg #[.int .i64 0, .int .u64 13, .string s, .int .i64 t.sec, .int .i64 t.nsec, .int .i64 t.off, .slice A len cap], .agg #[.int .i64 0, .int .u64 13, .string s, .int .i64 t.sec, .int .i64 t'.nsec, .int .i64 t'.off, .slice A' len' cap']] w (YesEnd w) := by
  unfold YesEnd
  have Hl := Lib.hid hl
  have Hl' := Lib.hid (show RS w l' A' len' ∧ l'.head = l.head from ⟨hl', hh.symm⟩)
  clear hl hl' hh
  go_enter Tryz.func18, Tryz.ntmps18
  go_wp2
  go_quiet (first
      | (go_at_call 41; with_reducible refine head_quiet l _ A len cap _ ?_; exact Hl.out.keep (keeps_of_below (by repeat' (first | with_reducible assumption | with_reducible exact Below.refl _ _ | with_reducible refine Below.setCell ?_ ?_ _ | with_reducible refine Below.alloc ?_ ?_ _ | with_reducible refine Below.drew ?_ | with_reducible refine below_drewN ?_ _ | omega | (simp; done) | (simp; omega)))))
      | (go_at_call 41; with_reducible refine head_quiet_eq l' l.head Hl'.out.2 _ A' len' cap' _ ?_; exact Hl'.out.1.keep (keeps_of_below (by repeat' (first | with_reducible assumption | with_reducible exact Below.refl _ _ | with_reducible refine Below.setCell ?_ ?_ _ | with_reducible refine Below.alloc ?_ ?_ _ | with_reducible refine Below.drew ?_ | with_reducible refine below_drewN ?_ _ | omega | (simp; done) | (simp; omega))))))
  go_wp2
  go_ret
  exact ⟨by simp, (by repeat' (first | with_reducible assumption | with_reducible exact Below.refl _ _ | with_reducible refine Below.setCell ?_ ?_ _ | with_reducible refine Below.alloc ?_ ?_ _ | with_reducible refine Below.drew ?_ | with_reducible refine below_drewN ?_ _ | omega | (simp; done) | (simp; omega)))⟩

set_option maxRecDepth 100000 in
set_option maxHeartbeats 400000 in
theorem same_both (hh : l.head = l'.head) (hl : RS w l A len) (hl' : RS w l' A' len') : Calls Tryz.prog 18 #[.agg #[.int .i64 0, .int .u64 15, .string s, .int .i64 t.sec, .int .i64 t.nsec, .int .i64 t.off, .slice A len cap], .agg #[.int .i64 0, .int .u64 15, .string s, .int .i64 t'.sec, .int .i64 t'.nsec, .int .i64 t'.off, .slice A' len' cap']] w (YesEnd w) := by
  unfold YesEnd
  have Hl := Lib.hid hl
  have Hl' := Lib.hid (show RS w l' A' len' ∧ l'.head = l.head from ⟨hl', hh.symm⟩)
  clear hl hl' hh
  go_enter Tryz.func18, Tryz.ntmps18
  go_wp2
  go_quiet (first
      | (go_at_call 41; with_reducible refine head_quiet l _ A len cap _ ?_; exact Hl.out.keep (keeps_of_below (by repeat' (first | with_reducible assumption | with_reducible exact Below.refl _ _ | with_reducible refine Below.setCell ?_ ?_ _ | with_reducible refine Below.alloc ?_ ?_ _ | with_reducible refine Below.drew ?_ | with_reducible refine below_drewN ?_ _ | omega | (simp; done) | (simp; omega)))))
      | (go_at_call 41; with_reducible refine head_quiet_eq l' l.head Hl'.out.2 _ A' len' cap' _ ?_; exact Hl'.out.1.keep (keeps_of_below (by repeat' (first | with_reducible assumption | with_reducible exact Below.refl _ _ | with_reducible refine Below.setCell ?_ ?_ _ | with_reducible refine Below.alloc ?_ ?_ _ | with_reducible refine Below.drew ?_ | with_reducible refine below_drewN ?_ _ | omega | (simp; done) | (simp; omega))))))
  go_wp2
  go_ret
  exact ⟨by simp, (by repeat' (first | with_reducible assumption | with_reducible exact Below.refl _ _ | with_reducible refine Below.setCell ?_ ?_ _ | with_reducible refine Below.alloc ?_ ?_ _ | with_reducible refine Below.drew ?_ | with_reducible refine below_drewN ?_ _ | omega | (simp; done) | (simp; omega)))⟩

set_option maxRecDepth 100000 in
set_option maxHeartbeats 400000 in
theorem same_throws (hs : ¬ s = ByteArray.empty) : Calls Tryz.prog 18 #[.agg #[.int .i64 9, .int .u64 n, .string s, .int .i64 t.sec, .int .i64 t.nsec, .int .i64 t.off, .slice A len cap], .agg #[.int .i64 9, .int .u64 n', .string s, .int .i64 t'.sec, .int .i64 t'.nsec, .int .i64 t'.off, .slice A' len' cap']] w (YesEnd w) := by
  unfold YesEnd
  have hb := toList_ne hs
  go_enter Tryz.func18, Tryz.ntmps18
  go_wp2
  go_ret
  exact ⟨rfl, (by repeat' (first | with_reducible assumption | with_reducible exact Below.refl _ _ | with_reducible refine Below.setCell ?_ ?_ _ | with_reducible refine Below.alloc ?_ ?_ _ | with_reducible refine Below.drew ?_ | with_reducible refine below_drewN ?_ _ | omega | (simp; done) | (simp; omega)))⟩

set_option maxRecDepth 100000 in
set_option maxHeartbeats 400000 in
theorem same_valuer (ih : SameEV (.mk 9 n ByteArray.empty t l)) (hE : SameE l l') (hl : RS w l A len) (hl' : RS w l' A' len') : Calls Tryz.prog 18 #[.agg #[.int .i64 9, .int .u64 n, .string ByteArray.empty, .int .i64 t.sec, .int .i64 t.nsec, .int .i64 t.off, .slice A len cap], .agg #[.int .i64 9, .int .u64 n, .string ByteArray.empty, .int .i64 t'.sec, .int .i64 t'.nsec, .int .i64 t'.off, .slice A' len' cap']] w (YesEnd w) := by
  unfold YesEnd
  have Hih := Lib.hid (fun wx h1 h2 => ih (.mk 9 n ByteArray.empty t' l') wx A A' len cap len' cap' hE h1 h2)
  have Hl := Lib.hid hl
  have Hl' := Lib.hid hl'
  clear ih hl hl' hE
  go_enter Tryz.func18, Tryz.ntmps18
  go_wp2_with (go_at_call 43; refine (Hih.out _ (Hl.out.keep (keeps_of_below (by repeat' (first | with_reducible assumption | with_reducible exact Below.refl _ _ | with_reducible refine Below.setCell ?_ ?_ _ | with_reducible refine Below.alloc ?_ ?_ _ | with_reducible refine Below.drew ?_ | with_reducible refine below_drewN ?_ _ | omega | (simp; done) | (simp; omega))))) (Hl'.out.keep (keeps_of_below (by repeat' (first | with_reducible assumption | with_reducible exact Below.refl _ _ | with_reducible refine Below.setCell ?_ ?_ _ | with_reducible refine Below.alloc ?_ ?_ _ | with_reducible refine Below.drew ?_ | with_reducible refine below_drewN ?_ _ | omega | (simp; done) | (simp; omega)))))).mono ?_; rintro e w2 ⟨rfl, hb2⟩; have hB2 := keeps_below (show Below w.heap.size w _ from (by repeat' (first | with_reducible assumption | with_reducible exact Below.refl _ _ | with_reducible refine Below.setCell ?_ ?_ _ | with_reducible refine Below.alloc ?_ ?_ _ | with_reducible refine Below.drew ?_ | with_reducible refine below_drewN ?_ _ | omega | (simp; done) | (simp; omega)))) hb2)
  go_ret
  exact ⟨rfl, hB2⟩

set_option maxRecDepth 100000 in
set_option maxHeartbeats 400000 in
theorem same_group (ih : SameLV l) (hE : SameL l l') (hlen : l.len ≤ 140737488355328) (hl : RS w l A len) (hl' : RS w l' A' len') : Calls Tryz.prog 18 #[.agg #[.int .i64 8, .int .u64 n, .string s, .int .i64 t.sec, .int .i64 t.nsec, .int .i64 t.off, .slice A len cap], .agg #[.int .i64 8, .int .u64 n', .string s', .int .i64 t'.sec, .int .i64 t'.nsec, .int .i64 t'.off, .slice A' len' cap']] w (YesEnd w) := by
  unfold YesEnd
  have Hih := Lib.hid (fun wx h1 h2 => ih l' wx A A' len cap len' cap' hE hlen h1 h2)
  have Hl := Lib.hid hl
  have Hl' := Lib.hid hl'
  clear ih hl hl' hE hlen
  go_enter Tryz.func18, Tryz.ntmps18
  go_wp2_with (go_at_call 32; refine (Hih.out _ (Hl.out.keep (keeps_of_below (by repeat' (first | with_reducible assumption | with_reducible exact Below.refl _ _ | with_reducible refine Below.setCell ?_ ?_ _ | with_reducible refine Below.alloc ?_ ?_ _ | with_reducible refine Below.drew ?_ | with_reducible refine below_drewN ?_ _ | omega | (simp; done) | (simp; omega))))) (Hl'.out.keep (keeps_of_below (by repeat' (first | with_reducible assumption | with_reducible exact Below.refl _ _ | with_reducible refine Below.setCell ?_ ?_ _ | with_reducible refine Below.alloc ?_ ?_ _ | with_reducible refine Below.drew ?_ | with_reducible refine below_drewN ?_ _ | omega | (simp; done) | (simp; omega)))))).mono ?_; rintro e w2 ⟨rfl, hb2⟩; have hB2 := keeps_below (show Below w.heap.size w _ from (by repeat' (first | with_reducible assumption | with_reducible exact Below.refl _ _ | with_reducible refine Below.setCell ?_ ?_ _ | with_reducible refine Below.alloc ?_ ?_ _ | with_reducible refine Below.drew ?_ | with_reducible refine below_drewN ?_ _ | omega | (simp; done) | (simp; omega)))) hb2)
  go_ret
  exact ⟨rfl, hB2⟩

end

end Go.Proofs.YtdeomgfapffidaaGreatDoor.Va
