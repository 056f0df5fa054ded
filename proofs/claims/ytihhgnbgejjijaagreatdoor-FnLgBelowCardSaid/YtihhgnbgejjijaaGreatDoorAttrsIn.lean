/- impl.attrsIn: what a record's attributes tell. -/
import Derived.Test.YtihhgnbgejjijaaGreatDoorRecM
import Derived.Test.YtihhgnbgejjijaaGreatDoorToldV
import Derived.Deep.MidRow
namespace Go.Proofs.YtihhgnbgejjijaaGreatDoor.Va
set_option linter.unusedVariables false
set_option linter.unusedSimpArgs false
open Go Go.RowKit

/-- A record is loaded whole. -/
theorem rec_load {w : World} {b o : Nat} {rc : Nat → Value} {n : Nat} {bk : Value} (h : w.rangeAt b o [rc 0, rc 1, rc 2, rc 3, rc 4, rc 5, rc 6, rc 7, rc 8, rc 9, rc 10, rc 11, rc 12, rc 13, rc 14, rc 15, rc 16, rc 17, rc 18, rc 19, rc 20, rc 21, .int .i64 n, bk]) :
    (Instr.loadAt 115 (.pointer (some ⟨b, o, none⟩))).run Tryz.prog w = .ok (.agg #[rc 0, rc 1, rc 2, rc 3, rc 4, rc 5, rc 6, rc 7, rc 8, rc 9, rc 10, rc 11, rc 12, rc 13, rc 14, rc 15, rc 16, rc 17, rc 18, rc 19, rc 20, rc 21, .int .i64 n, bk]) w :=
  run_loadAt_mid w b o 115 [rc 0, rc 1, rc 2, rc 3, rc 4, rc 5, rc 6, rc 7, rc 8, rc 9, rc 10, rc 11, rc 12, rc 13, rc 14, rc 15, rc 16, rc 17, rc 18, rc 19, rc 20, rc 21, .int .i64 n, bk] _ h Tryz.underlying115 rfl (by kernel_rfl)
theorem range_new (w : World) (cs : List Value) (t : TypeId) : (w.alloc (.cells cs.toArray t)).rangeAt w.heap.size 0 cs := fun j v hv => by
  rw [Nat.zero_add]
  exact cell_new w _ _ _ j v rfl (by simpa using hv)
theorem range_keep {w w' : World} {b o : Nat} {cs : List Value} (h : w.rangeAt b o cs) (hk : Keeps w w') : w'.rangeAt b o cs := fun j v hv => hk.cell (h j v hv)

theorem acc_start {w : World} {o : Obj} {t : TypeId} : AccU (w.heap.size + 1) (.slice none 0 0) 0 [] ((w.alloc o).alloc (.cells #[.slice none 0 0] t)) :=
  ⟨cell_new _ _ _ _ _ _ (by simp) rfl, by simp [go_sem], World.ownsRow_nil _ _ _ _⟩

set_option maxRecDepth 100000 in
set_option maxHeartbeats 2000000 in
/-- impl.attrsIn. -/
theorem attrsIn_any {P : Nat → Prop} (f bk : SAttrs) (rc : Nat → Value) (A : Option Addr) (lb cb : Nat) (w : World) (hf : FrP P w f rc 7) (hfl : f.len ≤ 5) (hb : RSS P w bk A lb)
    (hsz : vSizeAll (SAttrs.append f bk) ≤ 700000) (hn : f.len + bk.len ≤ 299999) :
    Calls Tryz.prog 71 #[vRec rc f.len (.slice A lb cb)] w (ListPost (attrsTold (SAttrs.append f bk)) w) := by
  unfold ListPost
  have hmf : ∀ (fn : Fn) (first cap : Array Value) (w : World), (Instr.makeFunc fn first cap).run Tryz.prog w = .ok (.func fn first cap) w := fun _ _ _ _ => rfl
  have HF := Lib.hid (fun wx (hk : KeepsOn P w wx) => FrP.turn (Q := fun b => b < w.heap.size + 1) hk (fun b _ h => by omega) f rc 7 hf)
  have HB := Lib.hid (fun wx (hk : KeepsOn P w wx) => hb.turn (Q := fun b => b < w.heap.size + 1) hk (fun b _ h => by omega))
  have Hs := Lib.hid (And.intro hfl (And.intro hsz hn))
  clear hf hb hfl hsz hn
  have CA := Lib.hid (fun wx h1 h2 h3 => recAttrs_any (w.heap.size + 1) (.slice none 0 0) 0 [] .nil f bk rc A lb cb wx h1 rfl h2 Hs.out.1 h3 (by have := Hs.out.2.2; simp only [SAttrs.len]; omega))
  unfold vRec AccEnd at CA
  unfold vRec
  have HRG := Lib.hid (range_keep (range_new w [rc 0, rc 1, rc 2, rc 3, rc 4, rc 5, rc 6, rc 7, rc 8, rc 9, rc 10, rc 11, rc 12, rc 13, rc 14, rc 15, rc 16, rc 17, rc 18, rc 19, rc 20, rc 21, .int .i64 f.len, .slice A lb cb] 115) (keeps_of_below ((Below.refl _ _).alloc (Nat.le_refl _) (.cells #[.slice none 0 0] 113))))
  go_enter Tryz.func71, Tryz.ntmps71
  go_wp2_with (first
    | (refine wpList_load_mid rfl 115 (.tmp 1) rfl w.heap.size 0 rfl [rc 0, rc 1, rc 2, rc 3, rc 4, rc 5, rc 6, rc 7, rc 8, rc 9, rc 10, rc 11, rc 12, rc 13, rc 14, rc 15, rc 16, rc 17, rc 18, rc 19, rc 20, rc 21, .int .i64 f.len, .slice A lb cb] _ HRG.out Tryz.underlying115 rfl (by kernel_rfl) ?_; clear HRG)
    | (go_at_call 72; refine (CA.out _ acc_start (HF.out _ ((keeps_of_below (show Below w.heap.size w _ from (by repeat' (first | with_reducible assumption | with_reducible exact Below.refl _ _ | with_reducible refine Below.setCell ?_ ?_ _ | with_reducible refine Below.alloc ?_ ?_ _ | with_reducible refine Below.drew ?_ | with_reducible refine below_drewN ?_ _ | omega | (simp; done) | (simp; omega))))).on _)) (HB.out _ ((keeps_of_below (show Below w.heap.size w _ from (by repeat' (first | with_reducible assumption | with_reducible exact Below.refl _ _ | with_reducible refine Below.setCell ?_ ?_ _ | with_reducible refine Below.alloc ?_ ?_ _ | with_reducible refine Below.drew ?_ | with_reducible refine below_drewN ?_ _ | omega | (simp; done) | (simp; omega))))).on _))).mono ?_; rintro e w2 ⟨rfl, v2, m2, ys2, hA2, hx2, hT2, _⟩; have hB2 : Below w.heap.size w w2 := (Two.under (a := w) (show Below w.heap.size w _ from (by repeat' (first | with_reducible assumption | with_reducible exact Below.refl _ _ | with_reducible refine Below.setCell ?_ ?_ _ | with_reducible refine Below.alloc ?_ ?_ _ | with_reducible refine Below.drew ?_ | with_reducible refine below_drewN ?_ _ | omega | (simp; done) | (simp; omega)))) (Nat.le_refl _) hT2 (Nat.le_succ _) (fun g hg => by cases hg)); obtain ⟨A2, cap2, rfl, hr2⟩ := rss_of_owns (Q := fun _ => True) hA2.2.2 hx2 (fun _ _ => trivial) (fun _ _ => trivial); have HR2 := Lib.hid hr2; have a2 := hA2.1; have HB2 := Lib.hid hB2; clear hA2 hx2 hT2 hr2)
    | (go_at_call 102; refine (attrsTold_any (SAttrs.append f bk) (fun _ => True) _ A2 m2 cap2 Hs.out.2.1 HR2.out).mono ?_; rintro e w3 ⟨A3, len3, cap3, rfl, hr3, hb3⟩; have hB3 := keeps_below HB2.out hb3; have hs3 := HB2.out.size; have HR3 := Lib.hid hr3; clear hr3))
  go_ret
  exact ⟨A3, len3, cap3, rfl, HR3.out.turn (KeepsOn.refl _ _) (fun b hb _ => by simp at hb ⊢; omega), hB3⟩

end Go.Proofs.YtihhgnbgejjijaaGreatDoor.Va
