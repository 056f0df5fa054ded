/- impl.LevelVar: the walk. -/
import Derived.Test.YtconeignnananaaDoorVvPlay
namespace Go.Proofs.YtconeignnananaaDoor.Lv
open Go Go.Lib Go.RowKit

theorem But.alloc {g : Nat} {W w : World} (h : But g W w) (o : Obj) : But g W (w.alloc o) := h.trans (World.grownBy_alloc _ o _)
theorem But.below {g : Nat} {W w w' : World} (h : But g W w) (hb : Below w.heap.size w w') : But g W w' := h.trans (But.of_below hb)
theorem But.setFar {g : Nat} {W w : World} (h : But g W w) {p : Addr} (hp : W.heap.size ≤ p.block) (v : Value) : But g W (w.setCell p v) :=
  ⟨h.os, h.tape, h.output, by have := h.size; simpa using this, fun i hi hn => (Below.heap_setCell _ _ _ _ (by omega)).trans (h.block i hi hn)⟩
theorem vown_but {w w' : World} {g base : Nat} {e : TypeId} {size : Nat} {v : Value} {n : Nat} {xs : List Value} (h : w.ownsRow base e size v n xs) (hb : But g w w') (hg : g < base) : w'.ownsRow base e size v n xs := by
  refine ⟨h.1, ?_⟩
  rcases h.2 with hn | ⟨k, cap, cur, rfl, hbg, hgg, rest⟩
  · exact .inl hn
  · refine .inr ⟨k, cap, cur, rfl, hbg, ?_, rest⟩
    rw [hb.block k (Array.getElem?_eq_some_iff.1 hgg).1 (fun e => by injection e with e; omega)]
    exact hgg
theorem cell_of_but {g : Nat} {W w : World} (h : But g W w) {b o : Nat} {v : Value} (hn : b ≠ g) (hc : W.cell? ⟨b, o, none⟩ = some v) : w.cell? ⟨b, o, none⟩ = some v := (h.cell (World.block_lt_of_cell? W _ hc) hn).trans hc
theorem fin_cell {w2 : World} {c g o : Nat} {v x : Value} {ob : Obj} (hc : w2.cell? ⟨c, 0, none⟩ = some x) (hne : c ≠ g) : ((w2.setCell ⟨g, o, none⟩ v).alloc ob).cell? ⟨c, 0, none⟩ = some x := by
  have hl : c < w2.heap.size := World.block_lt_of_cell? w2 _ hc
  rw [World.cell?_alloc_lt _ _ _ (by simpa using hl), World.cell?_setCell_other _ _ _ _ (fun e => hne (by injection e with e _ _; exact e.symm))]
  exact hc
theorem fin_froz {w2 : World} {c g o : Nat} {v : Value} {ob : Obj} (hl : c < w2.heap.size) (hf : w2.frozen? ⟨c, 0, none⟩ = false) : ((w2.setCell ⟨g, o, none⟩ v).alloc ob).frozen? ⟨c, 0, none⟩ = false := by
  simp [go_sem, hl, hf]
/-- One round. -/
def ViRnd (w W1 : World) (l : List GVs) (b o : Nat) (s4 s14 : Value) (wr : World) : Prop :=
  ∃ (k : Nat) (rest : List GVs) (n : Int) (acc : List VOut), k + rest.length = l.length ∧ s14 = .int .i64 k ∧ i64B n ∧ wr.cell? ⟨w.heap.size, 0, none⟩ = some (.int .i64 n) ∧ wr.frozen? ⟨w.heap.size, 0, none⟩ = false ∧ wr.ownsRow (w.heap.size + 1) 40 3 s4 acc.length (oCells acc) ∧
    RVss w rest b (o + k * 3) ∧ vPlay 0 l = acc ++ vPlay n rest ∧ acc.length = k ∧ (∀ s ∈ rest, textOk s) ∧ But w.heap.size W1 wr
theorem ViRnd.step {w W1 wW w9 : World} {l : List GVs} {b o k : Nat} {s : GVs} {r : List GVs} {n : Int} {acc : List VOut} {s4 v9 : Value} (hkk : k + 1 + r.length = l.length) (hval : vPlay 0 l = acc ++ vPlay n (s :: r)) (hacc : acc.length = k) (hr : RVss w r b (o + k * 3 + 3)) (hok : ∀ x ∈ r, textOk x)
    (hnx : i64B (lvNext n s)) (cs : List Value) (hcs : cs = [.int .i64 (lvOut n s).level, .string (lvOut n s).text, .bool (lvOut n s).ok]) (hown : w9.ownsRow (w.heap.size + 1) 40 3 v9 (acc.length + 1) (oCells acc ++ cs))
    (hc : wW.cell? ⟨w.heap.size, 0, none⟩ = some (.int .i64 (lvNext n s))) (hf : wW.frozen? ⟨w.heap.size, 0, none⟩ = false) (hB : But w.heap.size W1 wW) (hG : wW.grownBy w9 s4.ownBlock) (ho : ∀ g, s4.ownBlock = some g → w.heap.size + 1 ≤ g) (hs1 : W1.heap.size = w.heap.size + 1) :
    ViRnd w W1 l b o v9 (.int .i64 ((k : Int) + 1)) w9 := by
  have hlt : w.heap.size < wW.heap.size := World.block_lt_of_cell? wW _ hc
  have hne : some w.heap.size ≠ s4.ownBlock := fun e => by have := ho _ e.symm; omega
  have hbk := hG.block w.heap.size hlt hne
  refine ⟨k + 1, r, lvNext n s, acc ++ [lvOut n s], hkk, by push_cast; rfl, hnx, (World.cell?_of_block (a := ⟨w.heap.size, 0, none⟩) hbk).trans hc, (World.frozen?_of_block (a := ⟨w.heap.size, 0, none⟩) hbk).trans hf, ?_, ?_, ?_, by simp [hacc], hok, ?_⟩
  · rw [oCells_snoc, List.length_append, ← hcs]
    exact hown
  · rwa [show o + (k + 1) * 3 = o + k * 3 + 3 by omega]
  · rw [hval, List.append_assoc]; rfl
  · refine ⟨hG.os.trans hB.os, hG.tape.trans hB.tape, hG.output.trans hB.output, Nat.le_trans hB.size hG.size, fun i hi hn => (hG.block i (by have := hB.size; omega) (fun e => ?_)).trans (hB.block i hi hn)⟩
    have := ho _ e.symm
    omega

set_option maxRecDepth 100000 in
set_option maxHeartbeats 2000000 in
/-- impl.LevelVar. -/
theorem levelVar_any (l : List GVs) (w : World) (A : Option Addr) (len cap : Nat) (hl : RVsS w l A len) (hn : l.length ≤ 200) (hok : ∀ s ∈ l, textOk s) (hp : Pow w) (hE : Env w) :
    Calls Tryd.prog 22 #[.slice A len cap] w (OutsPost (vPlay 0 l) w) := by
  obtain ⟨i0, hi, hz0, hz1, hz2⟩ := info_parts infoOut
  obtain ⟨hl0, hl1⟩ := hl
  obtain ⟨Q, hQ⟩ : ∃ Q : Ending → World → Prop, Q = OutsPost (vPlay 0 l) w := ⟨_, rfl⟩
  rw [← hQ]
  have HQ := Lib.hid hQ
  have Hl0 := Lib.hid hl0
  have HP := Lib.hid hp
  have HE := Lib.hid hE
  have hst : ∃ b o, (0 < len → A = some ⟨b, o, none⟩) ∧ RVss w l b o := by
    by_cases hz : 0 < len
    · obtain ⟨b, o, e, hr⟩ := hl1 hz
      exact ⟨b, o, fun _ => e, hr⟩
    · have : l = [] := List.length_eq_zero_iff.1 (by omega)
      subst this
      exact ⟨0, 0, fun h => absurd h hz, trivial⟩
  obtain ⟨b, o, hA, hs⟩ := hst
  have HA := Lib.hid hA
  have HS := Lib.hid (And.intro hs hok)
  have HN := Lib.hid hn
  have hcv0 : ∀ (s : ByteArray) (w : World), (convert 9 41 (.string s)).run Tryd.prog w = .ok (.slice (some ⟨w.heap.size, 0, none⟩) s.size (grownCap w s.size 0 5)) (bytesWorld w 5 s) := fun s w =>
    Lib.run_convert_string_bytes w 9 41 5 s Tryd.underlying9 Tryd.underlying41 Tryd.underlying5
  have hB1 : Below w.heap.size w (w.alloc (.cells #[.int .i64 0] 56)) := (Below.refl _ _).alloc (Nat.le_refl _) _
  have c1 : (w.alloc (.cells #[.int .i64 0] 56)).cell? ⟨w.heap.size, 0, none⟩ = some (.int .i64 0) := by simp
  have f1 : (w.alloc (.cells #[.int .i64 0] 56)).frozen? ⟨w.heap.size, 0, none⟩ = false := by simp
  have s1 : (w.alloc (.cells #[.int .i64 0] 56)).heap.size = w.heap.size + 1 := by simp
  have H1 := Lib.hid (And.intro hB1 (And.intro c1 f1))
  clear hQ hl0 hl1 hA hs hok hn hp hE hB1 c1 f1
  go_enter Tryd.func22, Tryd.ntmps22
  go_wp2
  generalize w.alloc (.cells #[.int .i64 0] 56) = W1 at H1 s1 ⊢
  have S1 := Lib.hid s1
  clear s1
  go_loopw [4, 14] (fun x y wr => ViRnd w W1 l b o x y wr) (fun _ y _ => len - (intOf y).toNat)
  case atStart => exact ⟨0, l, 0, [], by omega, rfl, ⟨by decide, by decide⟩, H1.out.2.1, H1.out.2.2, World.ownsRow_nil _ _ _ _, by simpa using HS.out.1, rfl, rfl, HS.out.2, But.refl _ _⟩
  case round =>
    clear HS
    obtain ⟨k, rest, n, acc, hk, rfl, hnb, hcn, hfn, hown, hrs, hval, hacc, hok, hB⟩ := hrel
    have hk' := Hl0.out
    have Hval := Lib.hid hval
    have HO := Lib.hid hown
    have HLO := Lib.hid hown.lt
    have HB := Lib.hid hB
    have HAC := Lib.hid hacc
    have hsz : w.heap.size + 1 ≤ wr.heap.size := by have := hB.size; have := S1.out; omega
    have HBW := Lib.hid (below_but H1.out.1 hB)
    have hkb : k ≤ 200 := by have := HN.out; omega
    have hac2 : acc.length ≤ 200 := by omega
    cases rest with
    | nil =>
      have hke : ¬ ((k : Int) < (len : Int)) := by simp at hk; omega
      clear hk hk' hrs hok hval hown hB hacc hnb hcn hfn
      go_wp2
      rw [HQ.out]
      obtain ⟨A2, c2, rfl, hr2⟩ := outs_of_owns HO.out
      have hv : vPlay 0 l = acc := by have := Hval.out; rwa [show vPlay n [] = [] from rfl, List.append_nil] at this
      rw [hv]
      exact ⟨A2, _, c2, rfl, hr2, HBW.out⟩
    | cons s r =>
      have hlt : (k : Int) < (len : Int) := by simp only [List.length_cons] at hk; omega
      have hk0 : (0 : Int) ≤ (k : Int) := by omega
      have hkk : k + 1 + r.length = l.length := by simp only [List.length_cons] at hk; omega
      have hA := HA.out (by omega)
      subst hA
      have Hok := Lib.hid (fun x hx => hok x (List.mem_cons_of_mem _ hx))
      obtain ⟨ht1, ht2, ha0, ha5, hlb⟩ := hok s (List.mem_cons_self ..)
      have HT2 := Lib.hid ht2
      have HNB := Lib.hid hnb
      have HLB := Lib.hid hlb
      have HNX := Lib.hid (lvNext_bound hnb hlb)
      obtain ⟨act, level, text⟩ := s
      obtain ⟨h0, h1, h2, hr⟩ := hrs
      have hbk : b < w.heap.size := World.block_lt_of_cell? w _ h0
      simp only at h0 h1 h2 ht1 ha0 ha5 hlb
      have h0 := (HBW.out.cell (by exact hbk)).trans h0
      have h1 := (HBW.out.cell (by exact hbk)).trans h1
      have h2 := (HBW.out.cell (by exact hbk)).trans h2
      have HR := Lib.hid hr
      have HPW := Lib.hid (HP.out.on HBW.out)
      have HEW := Lib.hid (HE.out.on HBW.out)
      have hbb : b < wr.heap.size := by omega
      have hsn := lvName_size n hnb.1 hnb.2
      obtain ⟨hl1, hl2⟩ := hlb
      obtain ⟨hn1, hn2⟩ := hnb
      have hwn : w.heap.size < wr.heap.size := by omega
      clear hk hk' hr hok hval hown hB hacc ht2
      have hcase : act = 0 ∨ act = 1 ∨ act = 2 ∨ act = 3 ∨ act = 4 ∨ act = 5 := by omega
      clear ha0 ha5
      rcases hcase with rfl | rfl | rfl | rfl | rfl | rfl
      · go_wp2_with (first
          | (go_at_call 33; (with_reducible refine (varSet_but w.heap.size level _ _ HLB.out (((show Below wr.heap.size wr _ from (by repeat' (first | with_reducible assumption | with_reducible exact Below.refl _ _ | with_reducible refine Below.setCell ?_ ?_ _ | with_reducible refine Below.alloc ?_ ?_ _ | with_reducible refine Below.drew ?_ | with_reducible refine below_drewN ?_ _ | omega | (simp; done) | (simp; omega)))).cell (p := ⟨w.heap.size, 0, none⟩) hwn).trans hcn) (((show Below wr.heap.size wr _ from (by repeat' (first | with_reducible assumption | with_reducible exact Below.refl _ _ | with_reducible refine Below.setCell ?_ ?_ _ | with_reducible refine Below.alloc ?_ ?_ _ | with_reducible refine Below.drew ?_ | with_reducible refine below_drewN ?_ _ | omega | (simp; done) | (simp; omega)))).frozen (p := ⟨w.heap.size, 0, none⟩) hwn).trans hfn)).mono ?_); rintro e w2 ⟨rfl, hu2, d2, g2⟩; have e0 := (hu2.cell (b := wr.heap.size + 1) (o := 0) (by simp) (by omega)); have e1 := (hu2.cell (b := wr.heap.size + 1) (o := 1) (by simp) (by omega)); have e2 := (hu2.cell (b := wr.heap.size + 1) (o := 2) (by simp) (by omega)); have ef := fun o => (hu2.frozen (b := wr.heap.size + 1) (o := o) (by simp) (by omega)); simp [go_sem] at e0 e1 e2 ef; have hs2 := hu2.size; (try simp only [World.size_alloc] at hs2); have hU2 := Lib.hid ((But.of_below (g := w.heap.size) (show Below wr.heap.size wr _ from (by repeat' (first | with_reducible assumption | with_reducible exact Below.refl _ _ | with_reducible refine Below.setCell ?_ ?_ _ | with_reducible refine Below.alloc ?_ ?_ _ | with_reducible refine Below.drew ?_ | with_reducible refine below_drewN ?_ _ | omega | (simp; done) | (simp; omega))))).trans hu2); clear hu2)
          | (at_builtin; refine wpList_append_own_at _ rfl (.tmp 70) (.tmp 72) 37 rfl (w.heap.size + 1) 40 i0 _ 3 32 Tryd.underlying37 hi hz0 hz1 hz2 rfl (by decide) _ acc.length (oCells acc) rfl (vown_but HO.out (show But w.heap.size wr _ from (by repeat' (first | with_reducible exact hU2.out | with_reducible assumption | with_reducible exact But.refl _ _ | with_reducible refine But.set ?_ _ _ | with_reducible refine But.setFar ?_ ?_ _ | with_reducible refine But.alloc ?_ _ | omega | (simp; done) | (simp; omega)))) (Nat.lt_succ_self _)) ⟨_, 0, none⟩ 1 1 [.int .i64 0, .string ⟨#[]⟩, .bool true] rfl rfl (by intro j u hj; exact vcells_new _ _ _ _ (by simp) j u hj) (by intro u hu; simp at hu; rcases hu with rfl | rfl | rfl; all_goals rfl) (by unfold maxLen; omega) (by omega) (by simp; omega) ?_; intro v9 w9 hown9 hgrow9 hiff9 hat9; have HO9 := Lib.hid hown9; have HG9 := Lib.hid hgrow9; clear hown9 hgrow9 hiff9 hat9))
        refine ⟨ViRnd.step hkk Hval.out HAC.out HR.out Hok.out HNX.out _ (by simp [lvOut]) HO9.out (by rw [show lvNext n ⟨0, level, text⟩ = level by simp [lvNext]]; exact fin_cell d2 (by omega)) (fin_froz (World.block_lt_of_cell? w2 _ d2) g2) (HB.out.trans (show But w.heap.size wr _ from (by repeat' (first | with_reducible exact hU2.out | with_reducible assumption | with_reducible exact But.refl _ _ | with_reducible refine But.set ?_ _ _ | with_reducible refine But.setFar ?_ ?_ _ | with_reducible refine But.alloc ?_ _ | omega | (simp; done) | (simp; omega))))) HG9.out (fun g hg => (HLO.out g hg).1) S1.out, ?_⟩
        simp only [intOf]; omega
      · go_wp2_with (first
          | (go_at_call 34; (with_reducible refine (varLevel_any w.heap.size n _ HNB.out (((show Below wr.heap.size wr _ from (by repeat' (first | with_reducible assumption | with_reducible exact Below.refl _ _ | with_reducible refine Below.setCell ?_ ?_ _ | with_reducible refine Below.alloc ?_ ?_ _ | with_reducible refine Below.drew ?_ | with_reducible refine below_drewN ?_ _ | omega | (simp; done) | (simp; omega)))).cell (p := ⟨w.heap.size, 0, none⟩) hwn).trans hcn)).mono ?_); rintro e w2 ⟨rfl, rfl⟩)
          | (at_builtin; refine wpList_append_own_at _ rfl (.tmp 70) (.tmp 72) 37 rfl (w.heap.size + 1) 40 i0 _ 3 32 Tryd.underlying37 hi hz0 hz1 hz2 rfl (by decide) _ acc.length (oCells acc) rfl (vown_but HO.out (show But w.heap.size wr _ from (by repeat' (first | with_reducible assumption | with_reducible exact But.refl _ _ | with_reducible refine But.set ?_ _ _ | with_reducible refine But.setFar ?_ ?_ _ | with_reducible refine But.alloc ?_ _ | omega | (simp; done) | (simp; omega)))) (Nat.lt_succ_self _)) ⟨_, 0, none⟩ 1 1 [.int .i64 n, .string ⟨#[]⟩, .bool true] rfl rfl (by intro j u hj; exact vcells_new _ _ _ _ (by simp) j u hj) (by intro u hu; simp at hu; rcases hu with rfl | rfl | rfl; all_goals rfl) (by unfold maxLen; omega) (by omega) (by simp; omega) ?_; intro v9 w9 hown9 hgrow9 hiff9 hat9; have HO9 := Lib.hid hown9; have HG9 := Lib.hid hgrow9; clear hown9 hgrow9 hiff9 hat9))
        refine ⟨ViRnd.step hkk Hval.out HAC.out HR.out Hok.out HNX.out _ (by simp [lvOut]) HO9.out (by rw [show lvNext n ⟨1, level, text⟩ = n by simp [lvNext]]; exact (((show Below wr.heap.size wr _ from (by repeat' (first | with_reducible assumption | with_reducible exact Below.refl _ _ | with_reducible refine Below.setCell ?_ ?_ _ | with_reducible refine Below.alloc ?_ ?_ _ | with_reducible refine Below.drew ?_ | with_reducible refine below_drewN ?_ _ | omega | (simp; done) | (simp; omega)))).cell (p := ⟨w.heap.size, 0, none⟩) hwn).trans hcn)) (((show Below wr.heap.size wr _ from (by repeat' (first | with_reducible assumption | with_reducible exact Below.refl _ _ | with_reducible refine Below.setCell ?_ ?_ _ | with_reducible refine Below.alloc ?_ ?_ _ | with_reducible refine Below.drew ?_ | with_reducible refine below_drewN ?_ _ | omega | (simp; done) | (simp; omega)))).frozen (p := ⟨w.heap.size, 0, none⟩) hwn).trans hfn) (HB.out.trans (show But w.heap.size wr _ from (by repeat' (first | with_reducible assumption | with_reducible exact But.refl _ _ | with_reducible refine But.set ?_ _ _ | with_reducible refine But.setFar ?_ ?_ _ | with_reducible refine But.alloc ?_ _ | omega | (simp; done) | (simp; omega))))) HG9.out (fun g hg => (HLO.out g hg).1) S1.out, ?_⟩
        simp only [intOf]; omega
      · obtain ⟨N, hN⟩ : ∃ N, N = lvName n := ⟨_, rfl⟩
        rw [← hN] at hsn
        have HNN := Lib.hid hN
        clear hN
        go_wp2_with (first
          | (go_at_call 35; (with_reducible refine (varString_any w.heap.size n _ HNB.out (((show Below wr.heap.size wr _ from (by repeat' (first | with_reducible assumption | with_reducible exact Below.refl _ _ | with_reducible refine Below.setCell ?_ ?_ _ | with_reducible refine Below.alloc ?_ ?_ _ | with_reducible refine Below.drew ?_ | with_reducible refine below_drewN ?_ _ | omega | (simp; done) | (simp; omega)))).cell (p := ⟨w.heap.size, 0, none⟩) hwn).trans hcn) (HPW.out.on (by repeat' (first | with_reducible assumption | with_reducible exact Below.refl _ _ | with_reducible refine Below.setCell ?_ ?_ _ | with_reducible refine Below.alloc ?_ ?_ _ | with_reducible refine Below.drew ?_ | with_reducible refine below_drewN ?_ _ | omega | (simp; done) | (simp; omega))))).mono ?_); rintro e w2 ⟨rfl, hb2⟩; unfold varName; rw [← HNN.out]; have hB2 := vbelow (show Below wr.heap.size wr _ from (by repeat' (first | with_reducible assumption | with_reducible exact Below.refl _ _ | with_reducible refine Below.setCell ?_ ?_ _ | with_reducible refine Below.alloc ?_ ?_ _ | with_reducible refine Below.drew ?_ | with_reducible refine below_drewN ?_ _ | omega | (simp; done) | (simp; omega)))) hb2; obtain ⟨hc2, hf2⟩ := vbcell hb2; have hs2 := hb2.size; (try simp only [World.size_alloc, World.size_setCell, World.size_drew] at hs2); have hU2 := But.of_below (g := w.heap.size) hB2; clear hb2)
          | (at_builtin; refine wpList_append_own_at _ rfl (.tmp 70) (.tmp 72) 37 rfl (w.heap.size + 1) 40 i0 _ 3 32 Tryd.underlying37 hi hz0 hz1 hz2 rfl (by decide) _ acc.length (oCells acc) rfl (vown_but HO.out (show But w.heap.size wr _ from (by repeat' (first | with_reducible assumption | with_reducible exact But.refl _ _ | with_reducible refine But.set ?_ _ _ | with_reducible refine But.setFar ?_ ?_ _ | with_reducible refine But.alloc ?_ _ | omega | (simp; done) | (simp; omega)))) (Nat.lt_succ_self _)) ⟨_, 0, none⟩ 1 1 [.int .i64 0, .string (⟨#[76, 101, 118, 101, 108, 86, 97, 114, 40]⟩ ++ N ++ ⟨#[41]⟩), .bool true] rfl rfl (by intro j u hj; exact vcells_new _ _ _ _ (by simp) j u hj) (by intro u hu; simp at hu; rcases hu with rfl | rfl | rfl; all_goals rfl) (by unfold maxLen; omega) (by omega) (by simp; omega) ?_; intro v9 w9 hown9 hgrow9 hiff9 hat9; have HO9 := Lib.hid hown9; have HG9 := Lib.hid hgrow9; clear hown9 hgrow9 hiff9 hat9))
        refine ⟨ViRnd.step hkk Hval.out HAC.out HR.out Hok.out HNX.out _ (by simp [lvOut, varName, HNN.out]) HO9.out (by rw [show lvNext n ⟨2, level, text⟩ = n by simp [lvNext]]; exact (((show Below wr.heap.size wr _ from (by repeat' (first | with_reducible assumption | with_reducible exact Below.refl _ _ | with_reducible refine Below.setCell ?_ ?_ _ | with_reducible refine Below.alloc ?_ ?_ _ | with_reducible refine Below.drew ?_ | with_reducible refine below_drewN ?_ _ | omega | (simp; done) | (simp; omega)))).cell (p := ⟨w.heap.size, 0, none⟩) hwn).trans hcn)) (((show Below wr.heap.size wr _ from (by repeat' (first | with_reducible assumption | with_reducible exact Below.refl _ _ | with_reducible refine Below.setCell ?_ ?_ _ | with_reducible refine Below.alloc ?_ ?_ _ | with_reducible refine Below.drew ?_ | with_reducible refine below_drewN ?_ _ | omega | (simp; done) | (simp; omega)))).frozen (p := ⟨w.heap.size, 0, none⟩) hwn).trans hfn) (HB.out.trans (show But w.heap.size wr _ from (by repeat' (first | with_reducible assumption | with_reducible exact But.refl _ _ | with_reducible refine But.set ?_ _ _ | with_reducible refine But.setFar ?_ ?_ _ | with_reducible refine But.alloc ?_ _ | omega | (simp; done) | (simp; omega))))) HG9.out (fun g hg => (HLO.out g hg).1) S1.out, ?_⟩
        simp only [intOf]; omega
      · obtain ⟨N, hN⟩ : ∃ N, N = lvName n := ⟨_, rfl⟩
        rw [← hN] at hsn
        have HNN := Lib.hid hN
        clear hN
        go_wp2_with (first
          | (go_at_call 36; (with_reducible refine (varMarshal_any w.heap.size n _ HNB.out (((show Below wr.heap.size wr _ from (by repeat' (first | with_reducible assumption | with_reducible exact Below.refl _ _ | with_reducible refine Below.setCell ?_ ?_ _ | with_reducible refine Below.alloc ?_ ?_ _ | with_reducible refine Below.drew ?_ | with_reducible refine below_drewN ?_ _ | omega | (simp; done) | (simp; omega)))).cell (p := ⟨w.heap.size, 0, none⟩) hwn).trans hcn) (HPW.out.on (by repeat' (first | with_reducible assumption | with_reducible exact Below.refl _ _ | with_reducible refine Below.setCell ?_ ?_ _ | with_reducible refine Below.alloc ?_ ?_ _ | with_reducible refine Below.drew ?_ | with_reducible refine below_drewN ?_ _ | omega | (simp; done) | (simp; omega))))).mono ?_); rintro e w2 ⟨v2, rfl, hl2, hb2⟩; have hcv := hl2.convert (P := Tryd.prog) 41 9 5 Tryd.underlying41 Tryd.underlying5 Tryd.underlying9; rw [← HNN.out] at hcv; clear hl2; have hB2 := vbelow (show Below wr.heap.size wr _ from (by repeat' (first | with_reducible assumption | with_reducible exact Below.refl _ _ | with_reducible refine Below.setCell ?_ ?_ _ | with_reducible refine Below.alloc ?_ ?_ _ | with_reducible refine Below.drew ?_ | with_reducible refine below_drewN ?_ _ | omega | (simp; done) | (simp; omega)))) hb2; obtain ⟨hc2, hf2⟩ := vbcell hb2; have hs2 := hb2.size; (try simp only [World.size_alloc, World.size_setCell, World.size_drew] at hs2); have hU2 := But.of_below (g := w.heap.size) hB2; clear hb2)
          | (at_builtin; refine wpList_append_own_at _ rfl (.tmp 70) (.tmp 72) 37 rfl (w.heap.size + 1) 40 i0 _ 3 32 Tryd.underlying37 hi hz0 hz1 hz2 rfl (by decide) _ acc.length (oCells acc) rfl (vown_but HO.out (show But w.heap.size wr _ from (by repeat' (first | with_reducible assumption | with_reducible exact But.refl _ _ | with_reducible refine But.set ?_ _ _ | with_reducible refine But.setFar ?_ ?_ _ | with_reducible refine But.alloc ?_ _ | omega | (simp; done) | (simp; omega)))) (Nat.lt_succ_self _)) ⟨_, 0, none⟩ 1 1 [.int .i64 0, .string N, .bool true] rfl rfl (by intro j u hj; exact vcells_new _ _ _ _ (by simp) j u hj) (by intro u hu; simp at hu; rcases hu with rfl | rfl | rfl; all_goals rfl) (by unfold maxLen; omega) (by omega) (by simp; omega) ?_; intro v9 w9 hown9 hgrow9 hiff9 hat9; have HO9 := Lib.hid hown9; have HG9 := Lib.hid hgrow9; clear hown9 hgrow9 hiff9 hat9))
        refine ⟨ViRnd.step hkk Hval.out HAC.out HR.out Hok.out HNX.out _ (by simp [lvOut, HNN.out]) HO9.out (by rw [show lvNext n ⟨3, level, text⟩ = n by simp [lvNext]]; exact (((show Below wr.heap.size wr _ from (by repeat' (first | with_reducible assumption | with_reducible exact Below.refl _ _ | with_reducible refine Below.setCell ?_ ?_ _ | with_reducible refine Below.alloc ?_ ?_ _ | with_reducible refine Below.drew ?_ | with_reducible refine below_drewN ?_ _ | omega | (simp; done) | (simp; omega)))).cell (p := ⟨w.heap.size, 0, none⟩) hwn).trans hcn)) (((show Below wr.heap.size wr _ from (by repeat' (first | with_reducible assumption | with_reducible exact Below.refl _ _ | with_reducible refine Below.setCell ?_ ?_ _ | with_reducible refine Below.alloc ?_ ?_ _ | with_reducible refine Below.drew ?_ | with_reducible refine below_drewN ?_ _ | omega | (simp; done) | (simp; omega)))).frozen (p := ⟨w.heap.size, 0, none⟩) hwn).trans hfn) (HB.out.trans (show But w.heap.size wr _ from (by repeat' (first | with_reducible assumption | with_reducible exact But.refl _ _ | with_reducible refine But.set ?_ _ _ | with_reducible refine But.setFar ?_ ?_ _ | with_reducible refine But.alloc ?_ _ | omega | (simp; done) | (simp; omega))))) HG9.out (fun g hg => (HLO.out g hg).1) S1.out, ?_⟩
        simp only [intOf]; omega
      · obtain ⟨N, hN⟩ : ∃ N, N = lvName n := ⟨_, rfl⟩
        rw [← hN] at hsn
        have HNN := Lib.hid hN
        clear hN
        have hb0 : Below wr.heap.size wr ((wr.alloc (.cells #[.int .i64 4, .int .i64 level, .string text] 36)).alloc (.cells #[.int .i64 0, .string ⟨#[]⟩, .bool true] 40)) := (by repeat' (first | with_reducible assumption | with_reducible exact Below.refl _ _ | with_reducible refine Below.setCell ?_ ?_ _ | with_reducible refine Below.alloc ?_ ?_ _ | with_reducible refine Below.drew ?_ | with_reducible refine below_drewN ?_ _ | omega | (simp; done) | (simp; omega)))
        have cA := varAppend_conv w.heap.size n text ((wr.alloc (.cells #[.int .i64 4, .int .i64 level, .string text] 36)).alloc (.cells #[.int .i64 0, .string ⟨#[]⟩, .bool true] 40)) HNB.out (by omega) ((hb0.cell (p := ⟨w.heap.size, 0, none⟩) hwn).trans hcn) (HPW.out.on hb0)
        simp only [World.size_alloc] at cA
        rw [← HNN.out] at cA
        unfold BytesPost at cA
        have CA := Lib.hid cA
        clear cA hb0
        go_wp2_with (first
          | (go_at_call 37; (with_reducible refine CA.out.mono ?_); rintro e w2 ⟨v2, rfl, hl2, hb2⟩; have hcv := hl2.convert (P := Tryd.prog) 41 9 5 Tryd.underlying41 Tryd.underlying5 Tryd.underlying9; clear hl2; have hB2 := vbelow (show Below wr.heap.size wr _ from (by repeat' (first | with_reducible assumption | with_reducible exact Below.refl _ _ | with_reducible refine Below.setCell ?_ ?_ _ | with_reducible refine Below.alloc ?_ ?_ _ | with_reducible refine Below.drew ?_ | with_reducible refine below_drewN ?_ _ | omega | (simp; done) | (simp; omega)))) hb2; obtain ⟨hc2, hf2⟩ := vbcell hb2; have hs2 := hb2.size; (try simp only [World.size_alloc, World.size_setCell, World.size_drew] at hs2); have hU2 := But.of_below (g := w.heap.size) hB2; clear hb2)
          | (at_builtin; refine wpList_append_own_at _ rfl (.tmp 70) (.tmp 72) 37 rfl (w.heap.size + 1) 40 i0 _ 3 32 Tryd.underlying37 hi hz0 hz1 hz2 rfl (by decide) _ acc.length (oCells acc) rfl (vown_but HO.out (show But w.heap.size wr _ from (by repeat' (first | with_reducible assumption | with_reducible exact But.refl _ _ | with_reducible refine But.set ?_ _ _ | with_reducible refine But.setFar ?_ ?_ _ | with_reducible refine But.alloc ?_ _ | omega | (simp; done) | (simp; omega)))) (Nat.lt_succ_self _)) ⟨_, 0, none⟩ 1 1 [.int .i64 0, .string (text ++ N), .bool true] rfl rfl (by intro j u hj; exact vcells_new _ _ _ _ (by simp) j u hj) (by intro u hu; simp at hu; rcases hu with rfl | rfl | rfl; all_goals rfl) (by unfold maxLen; omega) (by omega) (by simp; omega) ?_; intro v9 w9 hown9 hgrow9 hiff9 hat9; have HO9 := Lib.hid hown9; have HG9 := Lib.hid hgrow9; clear hown9 hgrow9 hiff9 hat9))
        refine ⟨ViRnd.step hkk Hval.out HAC.out HR.out Hok.out HNX.out _ (by simp [lvOut, HNN.out]) HO9.out (by rw [show lvNext n ⟨4, level, text⟩ = n by simp [lvNext]]; exact (((show Below wr.heap.size wr _ from (by repeat' (first | with_reducible assumption | with_reducible exact Below.refl _ _ | with_reducible refine Below.setCell ?_ ?_ _ | with_reducible refine Below.alloc ?_ ?_ _ | with_reducible refine Below.drew ?_ | with_reducible refine below_drewN ?_ _ | omega | (simp; done) | (simp; omega)))).cell (p := ⟨w.heap.size, 0, none⟩) hwn).trans hcn)) (((show Below wr.heap.size wr _ from (by repeat' (first | with_reducible assumption | with_reducible exact Below.refl _ _ | with_reducible refine Below.setCell ?_ ?_ _ | with_reducible refine Below.alloc ?_ ?_ _ | with_reducible refine Below.drew ?_ | with_reducible refine below_drewN ?_ _ | omega | (simp; done) | (simp; omega)))).frozen (p := ⟨w.heap.size, 0, none⟩) hwn).trans hfn) (HB.out.trans (show But w.heap.size wr _ from (by repeat' (first | with_reducible assumption | with_reducible exact But.refl _ _ | with_reducible refine But.set ?_ _ _ | with_reducible refine But.setFar ?_ ?_ _ | with_reducible refine But.alloc ?_ _ | omega | (simp; done) | (simp; omega))))) HG9.out (fun g hg => (HLO.out g hg).1) S1.out, ?_⟩
        simp only [intOf]; omega
      · obtain ⟨L, hL⟩ : ∃ L, L = levelOf text.data.toList := ⟨_, rfl⟩
        have HLL := Lib.hid hL
        clear hsn hL
        cases L with
        | none =>
          have hb0 : Below wr.heap.size wr ((wr.alloc (.cells #[.int .i64 5, .int .i64 level, .string text] 36)).alloc (.cells #[.int .i64 0, .string ⟨#[]⟩, .bool true] 40)) := (by repeat' (first | with_reducible assumption | with_reducible exact Below.refl _ _ | with_reducible refine Below.setCell ?_ ?_ _ | with_reducible refine Below.alloc ?_ ?_ _ | with_reducible refine Below.drew ?_ | with_reducible refine below_drewN ?_ _ | omega | (simp; done) | (simp; omega)))
          have hb1 : Below wr.heap.size wr (bytesWorld ((wr.alloc (.cells #[.int .i64 5, .int .i64 level, .string text] 36)).alloc (.cells #[.int .i64 0, .string ⟨#[]⟩, .bool true] 40)) 5 text) := vbelow hb0 (bytesWorld_below _ 5 text)
          have cU := fun cp => varUnmarshal_no (.slice (some ⟨wr.heap.size + 1 + 1, 0, none⟩) text.size cp) text.data.toList w.heap.size n (bytesWorld ((wr.alloc (.cells #[.int .i64 5, .int .i64 level, .string text] 36)).alloc (.cells #[.int .i64 0, .string ⟨#[]⟩, .bool true] 40)) 5 text) HNB.out (by have h := lies_conv ((wr.alloc (.cells #[.int .i64 5, .int .i64 level, .string text] 36)).alloc (.cells #[.int .i64 0, .string ⟨#[]⟩, .bool true] 40)) 5 text cp; simpa using h) (by rw [← size_eq]; omega) HT2.out ((hb1.cell (p := ⟨w.heap.size, 0, none⟩) hwn).trans hcn) ((hb1.frozen (p := ⟨w.heap.size, 0, none⟩) hwn).trans hfn) (HEW.out.on hb1) HLL.out.symm
          have hX := bytesWorld_below ((wr.alloc (.cells #[.int .i64 5, .int .i64 level, .string text] 36)).alloc (.cells #[.int .i64 0, .string ⟨#[]⟩, .bool true] 40)) 5 text
          have e0 := hX.cell (p := ⟨wr.heap.size + 1, 0, none⟩) (by simp)
          have e1 := hX.cell (p := ⟨wr.heap.size + 1, 1, none⟩) (by simp)
          have e2 := hX.cell (p := ⟨wr.heap.size + 1, 2, none⟩) (by simp)
          have ef := fun o => hX.frozen (p := ⟨wr.heap.size + 1, o, none⟩) (by simp)
          have hXs := hX.size
          simp [go_sem] at e0 e1 e2 ef hXs
          have CU := Lib.hid cU
          have HX := Lib.hid (And.intro e0 (And.intro e1 (And.intro e2 ef)))
          have HB1 := Lib.hid hb1
          clear cU hb0 hb1 hX e0 e1 e2 ef
          go_wp2_with (first
            | (go_at_call 38; (with_reducible refine (CU.out _).mono ?_); rintro e w2 ⟨⟨t, u, rfl⟩, hu2, d2, g2⟩; have e0 := ((hu2.cell (b := wr.heap.size + 1) (o := 0) (by omega) (by omega)).trans HX.out.1); have e1 := ((hu2.cell (b := wr.heap.size + 1) (o := 1) (by omega) (by omega)).trans HX.out.2.1); have e2 := ((hu2.cell (b := wr.heap.size + 1) (o := 2) (by omega) (by omega)).trans HX.out.2.2.1); have ef := fun o => ((hu2.frozen (b := wr.heap.size + 1) (o := o) (by omega) (by omega)).trans (HX.out.2.2.2 o)); have hU2 := Lib.hid ((But.of_below (g := w.heap.size) HB1.out).trans hu2); have hs2 := hu2.size; clear hu2)
            | (at_builtin; refine wpList_append_own_at _ rfl (.tmp 70) (.tmp 72) 37 rfl (w.heap.size + 1) 40 i0 _ 3 32 Tryd.underlying37 hi hz0 hz1 hz2 rfl (by decide) _ acc.length (oCells acc) rfl (vown_but HO.out (show But w.heap.size wr _ from (by repeat' (first | with_reducible exact hU2.out | with_reducible assumption | with_reducible exact But.refl _ _ | with_reducible refine But.set ?_ _ _ | with_reducible refine But.setFar ?_ ?_ _ | with_reducible refine But.alloc ?_ _ | omega | (simp; done) | (simp; omega)))) (Nat.lt_succ_self _)) ⟨_, 0, none⟩ 1 1 [.int .i64 0, .string ⟨#[]⟩, .bool false] rfl rfl (by intro j u hj; exact vcells_new _ _ _ _ (by simp) j u hj) (by intro u hu; simp at hu; rcases hu with rfl | rfl | rfl; all_goals rfl) (by unfold maxLen; omega) (by omega) (by simp; omega) ?_; intro v9 w9 hown9 hgrow9 hiff9 hat9; have HO9 := Lib.hid hown9; have HG9 := Lib.hid hgrow9; clear hown9 hgrow9 hiff9 hat9))
          refine ⟨ViRnd.step hkk Hval.out HAC.out HR.out Hok.out HNX.out _ (by simp [lvOut, ← HLL.out]) HO9.out (by rw [show lvNext n ⟨5, level, text⟩ = n by simp [lvNext, ← HLL.out]]; exact fin_cell d2 (by omega)) (fin_froz (World.block_lt_of_cell? w2 _ d2) g2) (HB.out.trans (show But w.heap.size wr _ from (by repeat' (first | with_reducible exact hU2.out | with_reducible assumption | with_reducible exact But.refl _ _ | with_reducible refine But.set ?_ _ _ | with_reducible refine But.setFar ?_ ?_ _ | with_reducible refine But.alloc ?_ _ | omega | (simp; done) | (simp; omega))))) HG9.out (fun g hg => (HLO.out g hg).1) S1.out, ?_⟩
          simp only [intOf]; omega
        | some x =>
          have hb0 : Below wr.heap.size wr ((wr.alloc (.cells #[.int .i64 5, .int .i64 level, .string text] 36)).alloc (.cells #[.int .i64 0, .string ⟨#[]⟩, .bool true] 40)) := (by repeat' (first | with_reducible assumption | with_reducible exact Below.refl _ _ | with_reducible refine Below.setCell ?_ ?_ _ | with_reducible refine Below.alloc ?_ ?_ _ | with_reducible refine Below.drew ?_ | with_reducible refine below_drewN ?_ _ | omega | (simp; done) | (simp; omega)))
          have hb1 : Below wr.heap.size wr (bytesWorld ((wr.alloc (.cells #[.int .i64 5, .int .i64 level, .string text] 36)).alloc (.cells #[.int .i64 0, .string ⟨#[]⟩, .bool true] 40)) 5 text) := vbelow hb0 (bytesWorld_below _ 5 text)
          have cU := fun cp => varUnmarshal_yes (.slice (some ⟨wr.heap.size + 1 + 1, 0, none⟩) text.size cp) text.data.toList w.heap.size n (bytesWorld ((wr.alloc (.cells #[.int .i64 5, .int .i64 level, .string text] 36)).alloc (.cells #[.int .i64 0, .string ⟨#[]⟩, .bool true] 40)) 5 text) HNB.out (by have h := lies_conv ((wr.alloc (.cells #[.int .i64 5, .int .i64 level, .string text] 36)).alloc (.cells #[.int .i64 0, .string ⟨#[]⟩, .bool true] 40)) 5 text cp; simpa using h) (by rw [← size_eq]; omega) HT2.out ((hb1.cell (p := ⟨w.heap.size, 0, none⟩) hwn).trans hcn) ((hb1.frozen (p := ⟨w.heap.size, 0, none⟩) hwn).trans hfn) (HEW.out.on hb1) x HLL.out.symm
          have hX := bytesWorld_below ((wr.alloc (.cells #[.int .i64 5, .int .i64 level, .string text] 36)).alloc (.cells #[.int .i64 0, .string ⟨#[]⟩, .bool true] 40)) 5 text
          have e0 := hX.cell (p := ⟨wr.heap.size + 1, 0, none⟩) (by simp)
          have e1 := hX.cell (p := ⟨wr.heap.size + 1, 1, none⟩) (by simp)
          have e2 := hX.cell (p := ⟨wr.heap.size + 1, 2, none⟩) (by simp)
          have ef := fun o => hX.frozen (p := ⟨wr.heap.size + 1, o, none⟩) (by simp)
          have hXs := hX.size
          simp [go_sem] at e0 e1 e2 ef hXs
          have CU := Lib.hid cU
          have HX := Lib.hid (And.intro e0 (And.intro e1 (And.intro e2 ef)))
          have HB1 := Lib.hid hb1
          clear cU hb0 hb1 hX e0 e1 e2 ef
          go_wp2_with (first
            | (go_at_call 38; (with_reducible refine (CU.out _).mono ?_); rintro e w2 ⟨rfl, hu2, d2, g2⟩; have e0 := ((hu2.cell (b := wr.heap.size + 1) (o := 0) (by omega) (by omega)).trans HX.out.1); have e1 := ((hu2.cell (b := wr.heap.size + 1) (o := 1) (by omega) (by omega)).trans HX.out.2.1); have e2 := ((hu2.cell (b := wr.heap.size + 1) (o := 2) (by omega) (by omega)).trans HX.out.2.2.1); have ef := fun o => ((hu2.frozen (b := wr.heap.size + 1) (o := o) (by omega) (by omega)).trans (HX.out.2.2.2 o)); have hU2 := Lib.hid ((But.of_below (g := w.heap.size) HB1.out).trans hu2); have hs2 := hu2.size; clear hu2)
            | (at_builtin; refine wpList_append_own_at _ rfl (.tmp 70) (.tmp 72) 37 rfl (w.heap.size + 1) 40 i0 _ 3 32 Tryd.underlying37 hi hz0 hz1 hz2 rfl (by decide) _ acc.length (oCells acc) rfl (vown_but HO.out (show But w.heap.size wr _ from (by repeat' (first | with_reducible exact hU2.out | with_reducible assumption | with_reducible exact But.refl _ _ | with_reducible refine But.set ?_ _ _ | with_reducible refine But.setFar ?_ ?_ _ | with_reducible refine But.alloc ?_ _ | omega | (simp; done) | (simp; omega)))) (Nat.lt_succ_self _)) ⟨_, 0, none⟩ 1 1 [.int .i64 0, .string ⟨#[]⟩, .bool true] rfl rfl (by intro j u hj; exact vcells_new _ _ _ _ (by simp) j u hj) (by intro u hu; simp at hu; rcases hu with rfl | rfl | rfl; all_goals rfl) (by unfold maxLen; omega) (by omega) (by simp; omega) ?_; intro v9 w9 hown9 hgrow9 hiff9 hat9; have HO9 := Lib.hid hown9; have HG9 := Lib.hid hgrow9; clear hown9 hgrow9 hiff9 hat9))
          refine ⟨ViRnd.step hkk Hval.out HAC.out HR.out Hok.out HNX.out _ (by simp [lvOut, ← HLL.out]) HO9.out (by rw [show lvNext n ⟨5, level, text⟩ = x by simp [lvNext, ← HLL.out]]; exact fin_cell d2 (by omega)) (fin_froz (World.block_lt_of_cell? w2 _ d2) g2) (HB.out.trans (show But w.heap.size wr _ from (by repeat' (first | with_reducible exact hU2.out | with_reducible assumption | with_reducible exact But.refl _ _ | with_reducible refine But.set ?_ _ _ | with_reducible refine But.setFar ?_ ?_ _ | with_reducible refine But.alloc ?_ _ | omega | (simp; done) | (simp; omega))))) HG9.out (fun g hg => (HLO.out g hg).1) S1.out, ?_⟩
          simp only [intOf]; omega

end Go.Proofs.YtconeignnananaaDoor.Lv
