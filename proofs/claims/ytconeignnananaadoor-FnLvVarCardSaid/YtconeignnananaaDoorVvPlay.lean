/- spec.LvVar: the walk. -/
import Derived.Test.YtconeignnananaaDoorVvM
import Derived.Maps.AppendAt
import Derived.Deep.AppendLies
import Derived.Deep.RegionHeld3
namespace Go.Proofs.YtconeignnananaaDoor.Lv
open Go Go.Lib Go.RowKit

theorem infoOut : (Tryd.prog.info? 40).map (fun i => (i.zero, i.size, i.bytes)) = some (some (.agg #[.int .i64 0, .string ByteArray.empty, .bool false]), 3, 32) := by kernel_rfl
theorem vown_below {w w' : World} {base : Nat} {e : TypeId} {size : Nat} {v : Value} {n : Nat} {xs : List Value} (h : w.ownsRow base e size v n xs) (hb : Below w.heap.size w w') : w'.ownsRow base e size v n xs := by
  refine ⟨h.1, ?_⟩
  rcases h.2 with hn | ⟨g, cap, cur, rfl, hbg, hgg, rest⟩
  · exact .inl hn
  · refine .inr ⟨g, cap, cur, rfl, hbg, ?_, rest⟩
    rw [hb.block g (Array.getElem?_eq_some_iff.1 hgg).1]
    exact hgg
theorem vcells_new (w : World) (cs : Array Value) (t : TypeId) (g : Nat) (hg : g = w.heap.size) (j : Nat) (v : Value) (hv : cs.toList[j]? = some v) : (w.alloc (.cells cs t)).cell? ((⟨g, 0, none⟩ : Addr).add j) = some v := by
  subst hg
  exact World.news_of_block (heap_alloc_new w _) j v hv
theorem vbelow {w wr w' : World} (hb : Below w.heap.size w wr) (h : Below wr.heap.size wr w') : Below w.heap.size w w' := hb.trans (h.mono hb.size)
theorem vbcell {W w1 : World} (hb : Below W.heap.size W w1) : (∀ b o, b < W.heap.size → w1.cell? ⟨b, o, none⟩ = W.cell? ⟨b, o, none⟩) ∧ (∀ b o, b < W.heap.size → w1.frozen? ⟨b, o, none⟩ = W.frozen? ⟨b, o, none⟩) :=
  ⟨fun b o h => hb.cell (p := ⟨b, o, none⟩) h, fun b o h => hb.frozen (p := ⟨b, o, none⟩) h⟩
/-- What steps return. -/
def OutsPost (l : List VOut) (w : World) (e : Ending) (w' : World) : Prop := ∃ A len cap, e = .returned (.slice A len cap) ∧ ROutS w' l A len ∧ Below w.heap.size w w'
def textOk (s : GVs) : Prop := s.text.size ≤ 65536 ∧ (∀ b ∈ s.text.data.toList, b.toNat < 128) ∧ 0 ≤ s.act ∧ s.act ≤ 5 ∧ i64B s.level
/-- One round. -/
def VvRnd (w : World) (l : List GVs) (b o : Nat) (s3 s4 s10 : Value) (wr : World) : Prop :=
  ∃ (k : Nat) (rest : List GVs) (n : Int) (acc : List VOut), k + rest.length = l.length ∧ s10 = .int .i64 k ∧ s4 = .int .i64 n ∧ i64B n ∧ wr.ownsRow w.heap.size 40 3 s3 acc.length (oCells acc) ∧ RVss w rest b (o + k * 3) ∧ vPlay 0 l = acc ++ vPlay n rest ∧ acc.length = k ∧
    (∀ s ∈ rest, textOk s) ∧ Below w.heap.size w wr
theorem VvRnd.step {w w9 : World} {l : List GVs} {b o k : Nat} {s : GVs} {r : List GVs} {n : Int} {acc : List VOut} {v9 s4 : Value} (hkk : k + 1 + r.length = l.length) (hval : vPlay 0 l = acc ++ vPlay n (s :: r)) (hacc : acc.length = k) (hr : RVss w r b (o + k * 3 + 3)) (hok : ∀ x ∈ r, textOk x)
    (hnx : i64B (lvNext n s)) (h4 : s4 = .int .i64 (lvNext n s)) (cs : List Value) (hcs : cs = [.int .i64 (lvOut n s).level, .string (lvOut n s).text, .bool (lvOut n s).ok]) (hown : w9.ownsRow w.heap.size 40 3 v9 (acc.length + 1) (oCells acc ++ cs)) (hB : Below w.heap.size w w9) :
    VvRnd w l b o v9 s4 (.int .i64 ((k : Int) + 1)) w9 := by
  refine ⟨k + 1, r, lvNext n s, acc ++ [lvOut n s], hkk, by push_cast; rfl, h4, hnx, ?_, ?_, ?_, by simp [hacc], hok, hB⟩
  · rw [oCells_snoc, List.length_append, ← hcs]
    exact hown
  · rwa [show o + (k + 1) * 3 = o + k * 3 + 3 by omega]
  · rw [hval, List.append_assoc]; rfl

set_option maxRecDepth 100000 in
set_option maxHeartbeats 2000000 in
/-- spec.LvVar. -/
theorem lvVar_any (l : List GVs) (w : World) (A : Option Addr) (len cap : Nat) (hl : RVsS w l A len) (hn : l.length ≤ 200) (hok : ∀ s ∈ l, textOk s) (hp : Pow w) :
    Calls Tryd.prog 21 #[.slice A len cap] w (OutsPost (vPlay 0 l) w) := by
  obtain ⟨i0, hi, hz0, hz1, hz2⟩ := info_parts infoOut
  obtain ⟨hl0, hl1⟩ := hl
  obtain ⟨Q, hQ⟩ : ∃ Q : Ending → World → Prop, Q = OutsPost (vPlay 0 l) w := ⟨_, rfl⟩
  rw [← hQ]
  have HQ := Lib.hid hQ
  have Hl0 := Lib.hid hl0
  have HP := Lib.hid hp
  have hst : ∃ b o, (0 < len → A = some ⟨b, o, none⟩) ∧ RVss w l b o := by
    by_cases hz : 0 < len
    · obtain ⟨b, o, e, hr⟩ := hl1 hz
      exact ⟨b, o, fun _ => e, hr⟩
    · have : l = [] := List.length_eq_zero_iff.1 (by omega)
      subst this
      exact ⟨0, 0, fun h => absurd h hz, trivial⟩
  obtain ⟨b, o, hA, hs⟩ := hst
  have HA := Lib.hid hA
  have HS := Lib.hid (And.intro hs hok)
  have HN := Lib.hid hn
  clear hQ hl0 hl1 hA hs hok hn hp
  go_enter Tryd.func21, Tryd.ntmps21
  go_wp2
  go_loopw [3, 4, 10] (fun x y z wr => VvRnd w l b o x y z wr) (fun _ _ z _ => len - (intOf z).toNat)
  case atStart => exact ⟨0, l, 0, [], by omega, rfl, rfl, ⟨by decide, by decide⟩, World.ownsRow_nil _ _ _ _, by simpa using HS.out.1, rfl, rfl, HS.out.2, Below.refl _ _⟩
  case round =>
    clear HS
    obtain ⟨k, rest, n, acc, hk, rfl, rfl, hnb, hown, hrs, hval, hacc, hok, hB⟩ := hrel
    have hk' := Hl0.out
    have Hval := Lib.hid hval
    have HO := Lib.hid hown
    have HLO := Lib.hid hown.lt
    have HB := Lib.hid hB
    have HAC := Lib.hid hacc
    have hsz := hB.size
    have hkb : k ≤ 200 := by have := HN.out; omega
    have hac2 : acc.length ≤ 200 := by omega
    cases rest with
    | nil =>
      have hke : ¬ ((k : Int) < (len : Int)) := by simp at hk; omega
      clear hk hk' hrs hok hval hown hB hacc hnb
      go_wp2
      rw [HQ.out]
      obtain ⟨A2, c2, rfl, hr2⟩ := outs_of_owns HO.out
      have hv : vPlay 0 l = acc := by have := Hval.out; rwa [show vPlay n [] = [] from rfl, List.append_nil] at this
      rw [hv]
      exact ⟨A2, _, c2, rfl, hr2, HB.out⟩
    | cons s r =>
      have hlt : (k : Int) < (len : Int) := by simp only [List.length_cons] at hk; omega
      have hk0 : (0 : Int) ≤ (k : Int) := by omega
      have hkk : k + 1 + r.length = l.length := by simp only [List.length_cons] at hk; omega
      have hA := HA.out (by omega)
      subst hA
      have Hok := Lib.hid (fun x hx => hok x (List.mem_cons_of_mem _ hx))
      obtain ⟨ht1, ht2, ha0, ha5, hlb⟩ := hok s (List.mem_cons_self ..)
      have HT2 := Lib.hid ht2
      have HNB := Lib.hid hnb
      have HNX := Lib.hid (lvNext_bound hnb hlb)
      obtain ⟨act, level, text⟩ := s
      obtain ⟨h0, h1, h2, hr⟩ := hrs
      have hbk : b < w.heap.size := World.block_lt_of_cell? w _ h0
      simp only at h0 h1 h2 ht1 ha0 ha5 hlb
      have h0 := (hB.cell (by exact hbk)).trans h0
      have h1 := (hB.cell (by exact hbk)).trans h1
      have h2 := (hB.cell (by exact hbk)).trans h2
      have HR := Lib.hid hr
      have HPW := Lib.hid (HP.out.on hB)
      have hbb : b < wr.heap.size := by omega
      have hsn := lvName_size n hnb.1 hnb.2
      obtain ⟨hl1, hl2⟩ := hlb
      obtain ⟨hn1, hn2⟩ := hnb
      clear hk hk' hr hok hval hown hB hacc ht2
      have hcase : act = 0 ∨ act = 1 ∨ act = 2 ∨ act = 3 ∨ act = 4 ∨ act = 5 := by omega
      clear ha0 ha5
      rcases hcase with rfl | rfl | rfl | rfl | rfl | rfl
      · go_wp2_with (at_builtin; refine wpList_append_own_at _ rfl (.tmp 55) (.tmp 57) 37 rfl w.heap.size 40 i0 _ 3 32 Tryd.underlying37 hi hz0 hz1 hz2 rfl (by decide) _ acc.length (oCells acc) rfl (vown_below HO.out (by repeat' (first | with_reducible assumption | with_reducible exact Below.refl _ _ | with_reducible refine Below.setCell ?_ ?_ _ | with_reducible refine Below.alloc ?_ ?_ _ | with_reducible refine Below.drew ?_ | with_reducible refine below_drewN ?_ _ | omega | (simp; done) | (simp; omega)))) ⟨_, 0, none⟩ 1 1 [.int .i64 0, .string ⟨#[]⟩, .bool true] rfl rfl (by intro j u hj; exact vcells_new _ _ _ _ (by simp) j u hj) (by intro u hu; simp at hu; rcases hu with rfl | rfl | rfl; all_goals rfl) (by unfold maxLen; omega) (by omega) (by simp; omega) ?_; intro v9 w9 hown9 hgrow9 hiff9 hat9; have HO9 := Lib.hid hown9; have HG9 := Lib.hid hgrow9; clear hown9 hgrow9 hiff9 hat9)
        refine ⟨VvRnd.step hkk Hval.out HAC.out HR.out Hok.out HNX.out (by simp [lvNext]) _ (by simp [lvOut]) HO9.out (Below.grown (by have q0 := HB.out; exact vbelow q0 (by repeat' (first | with_reducible assumption | with_reducible exact Below.refl _ _ | with_reducible refine Below.setCell ?_ ?_ _ | with_reducible refine Below.alloc ?_ ?_ _ | with_reducible refine Below.drew ?_ | with_reducible refine below_drewN ?_ _ | omega | (simp; done) | (simp; omega)))) HG9.out (by first | omega | (simp; done) | (simp; omega)) (fun g hg => (HLO.out g hg).1)), ?_⟩
        simp only [intOf]; omega
      · go_wp2_with (at_builtin; refine wpList_append_own_at _ rfl (.tmp 55) (.tmp 57) 37 rfl w.heap.size 40 i0 _ 3 32 Tryd.underlying37 hi hz0 hz1 hz2 rfl (by decide) _ acc.length (oCells acc) rfl (vown_below HO.out (by repeat' (first | with_reducible assumption | with_reducible exact Below.refl _ _ | with_reducible refine Below.setCell ?_ ?_ _ | with_reducible refine Below.alloc ?_ ?_ _ | with_reducible refine Below.drew ?_ | with_reducible refine below_drewN ?_ _ | omega | (simp; done) | (simp; omega)))) ⟨_, 0, none⟩ 1 1 [.int .i64 n, .string ⟨#[]⟩, .bool true] rfl rfl (by intro j u hj; exact vcells_new _ _ _ _ (by simp) j u hj) (by intro u hu; simp at hu; rcases hu with rfl | rfl | rfl; all_goals rfl) (by unfold maxLen; omega) (by omega) (by simp; omega) ?_; intro v9 w9 hown9 hgrow9 hiff9 hat9; have HO9 := Lib.hid hown9; have HG9 := Lib.hid hgrow9; clear hown9 hgrow9 hiff9 hat9)
        refine ⟨VvRnd.step hkk Hval.out HAC.out HR.out Hok.out HNX.out (by simp [lvNext]) _ (by simp [lvOut]) HO9.out (Below.grown (by have q0 := HB.out; exact vbelow q0 (by repeat' (first | with_reducible assumption | with_reducible exact Below.refl _ _ | with_reducible refine Below.setCell ?_ ?_ _ | with_reducible refine Below.alloc ?_ ?_ _ | with_reducible refine Below.drew ?_ | with_reducible refine below_drewN ?_ _ | omega | (simp; done) | (simp; omega)))) HG9.out (by first | omega | (simp; done) | (simp; omega)) (fun g hg => (HLO.out g hg).1)), ?_⟩
        simp only [intOf]; omega
      · obtain ⟨N, hN⟩ : ∃ N, N = lvName n := ⟨_, rfl⟩
        rw [← hN] at hsn
        have HNN := Lib.hid hN
        clear hN
        go_wp2_with (first
          | (go_at_call 13; (with_reducible refine (specName_any n HNB.out.1 HNB.out.2 _ (HPW.out.on (by repeat' (first | with_reducible assumption | with_reducible exact Below.refl _ _ | with_reducible refine Below.setCell ?_ ?_ _ | with_reducible refine Below.alloc ?_ ?_ _ | with_reducible refine Below.drew ?_ | with_reducible refine below_drewN ?_ _ | omega | (simp; done) | (simp; omega))))).mono ?_); rintro e w2 ⟨rfl, hb2⟩; rw [← HNN.out]; have hB2 := vbelow (show Below wr.heap.size wr _ from (by repeat' (first | with_reducible assumption | with_reducible exact Below.refl _ _ | with_reducible refine Below.setCell ?_ ?_ _ | with_reducible refine Below.alloc ?_ ?_ _ | with_reducible refine Below.drew ?_ | with_reducible refine below_drewN ?_ _ | omega | (simp; done) | (simp; omega)))) hb2; obtain ⟨hc2, hf2⟩ := vbcell hb2; have hs2 := hb2.size; (try simp only [World.size_alloc, World.size_setCell, World.size_drew] at hs2); clear hb2)
          | (at_builtin; refine wpList_append_own_at _ rfl (.tmp 55) (.tmp 57) 37 rfl w.heap.size 40 i0 _ 3 32 Tryd.underlying37 hi hz0 hz1 hz2 rfl (by decide) _ acc.length (oCells acc) rfl (vown_below HO.out (by repeat' (first | with_reducible assumption | with_reducible exact Below.refl _ _ | with_reducible refine Below.setCell ?_ ?_ _ | with_reducible refine Below.alloc ?_ ?_ _ | with_reducible refine Below.drew ?_ | with_reducible refine below_drewN ?_ _ | omega | (simp; done) | (simp; omega)))) ⟨_, 0, none⟩ 1 1 [.int .i64 0, .string (⟨#[76, 101, 118, 101, 108, 86, 97, 114, 40]⟩ ++ N ++ ⟨#[41]⟩), .bool true] rfl rfl (by intro j u hj; exact vcells_new _ _ _ _ (by simp) j u hj) (by intro u hu; simp at hu; rcases hu with rfl | rfl | rfl; all_goals rfl) (by unfold maxLen; omega) (by omega) (by simp; omega) ?_; intro v9 w9 hown9 hgrow9 hiff9 hat9; have HO9 := Lib.hid hown9; have HG9 := Lib.hid hgrow9; clear hown9 hgrow9 hiff9 hat9))
        refine ⟨VvRnd.step hkk Hval.out HAC.out HR.out Hok.out HNX.out (by simp [lvNext]) _ (by simp [lvOut, varName, HNN.out]) HO9.out (Below.grown (by have q0 := HB.out; exact vbelow q0 (by repeat' (first | with_reducible assumption | with_reducible exact Below.refl _ _ | with_reducible refine Below.setCell ?_ ?_ _ | with_reducible refine Below.alloc ?_ ?_ _ | with_reducible refine Below.drew ?_ | with_reducible refine below_drewN ?_ _ | omega | (simp; done) | (simp; omega)))) HG9.out (by first | omega | (simp; done) | (simp; omega)) (fun g hg => (HLO.out g hg).1)), ?_⟩
        simp only [intOf]; omega
      · obtain ⟨N, hN⟩ : ∃ N, N = lvName n := ⟨_, rfl⟩
        rw [← hN] at hsn
        have HNN := Lib.hid hN
        clear hN
        go_wp2_with (first
          | (go_at_call 13; (with_reducible refine (specName_any n HNB.out.1 HNB.out.2 _ (HPW.out.on (by repeat' (first | with_reducible assumption | with_reducible exact Below.refl _ _ | with_reducible refine Below.setCell ?_ ?_ _ | with_reducible refine Below.alloc ?_ ?_ _ | with_reducible refine Below.drew ?_ | with_reducible refine below_drewN ?_ _ | omega | (simp; done) | (simp; omega))))).mono ?_); rintro e w2 ⟨rfl, hb2⟩; rw [← HNN.out]; have hB2 := vbelow (show Below wr.heap.size wr _ from (by repeat' (first | with_reducible assumption | with_reducible exact Below.refl _ _ | with_reducible refine Below.setCell ?_ ?_ _ | with_reducible refine Below.alloc ?_ ?_ _ | with_reducible refine Below.drew ?_ | with_reducible refine below_drewN ?_ _ | omega | (simp; done) | (simp; omega)))) hb2; obtain ⟨hc2, hf2⟩ := vbcell hb2; have hs2 := hb2.size; (try simp only [World.size_alloc, World.size_setCell, World.size_drew] at hs2); clear hb2)
          | (at_builtin; refine wpList_append_own_at _ rfl (.tmp 55) (.tmp 57) 37 rfl w.heap.size 40 i0 _ 3 32 Tryd.underlying37 hi hz0 hz1 hz2 rfl (by decide) _ acc.length (oCells acc) rfl (vown_below HO.out (by repeat' (first | with_reducible assumption | with_reducible exact Below.refl _ _ | with_reducible refine Below.setCell ?_ ?_ _ | with_reducible refine Below.alloc ?_ ?_ _ | with_reducible refine Below.drew ?_ | with_reducible refine below_drewN ?_ _ | omega | (simp; done) | (simp; omega)))) ⟨_, 0, none⟩ 1 1 [.int .i64 0, .string N, .bool true] rfl rfl (by intro j u hj; exact vcells_new _ _ _ _ (by simp) j u hj) (by intro u hu; simp at hu; rcases hu with rfl | rfl | rfl; all_goals rfl) (by unfold maxLen; omega) (by omega) (by simp; omega) ?_; intro v9 w9 hown9 hgrow9 hiff9 hat9; have HO9 := Lib.hid hown9; have HG9 := Lib.hid hgrow9; clear hown9 hgrow9 hiff9 hat9))
        refine ⟨VvRnd.step hkk Hval.out HAC.out HR.out Hok.out HNX.out (by simp [lvNext]) _ (by simp [lvOut, HNN.out]) HO9.out (Below.grown (by have q0 := HB.out; exact vbelow q0 (by repeat' (first | with_reducible assumption | with_reducible exact Below.refl _ _ | with_reducible refine Below.setCell ?_ ?_ _ | with_reducible refine Below.alloc ?_ ?_ _ | with_reducible refine Below.drew ?_ | with_reducible refine below_drewN ?_ _ | omega | (simp; done) | (simp; omega)))) HG9.out (by first | omega | (simp; done) | (simp; omega)) (fun g hg => (HLO.out g hg).1)), ?_⟩
        simp only [intOf]; omega
      · obtain ⟨N, hN⟩ : ∃ N, N = lvName n := ⟨_, rfl⟩
        rw [← hN] at hsn
        have HNN := Lib.hid hN
        clear hN
        go_wp2_with fail
        go_region_with (go_at_call 13; (with_reducible refine (specName_any n HNB.out.1 HNB.out.2 _ (HPW.out.on (by repeat' (first | with_reducible assumption | with_reducible exact Below.refl _ _ | with_reducible refine Below.setCell ?_ ?_ _ | with_reducible refine Below.alloc ?_ ?_ _ | with_reducible refine Below.drew ?_ | with_reducible refine below_drewN ?_ _ | omega | (simp; done) | (simp; omega))))).mono ?_); rintro e w2 ⟨rfl, hb2⟩; rw [← HNN.out]; have hB2 := vbelow (show Below wr.heap.size wr _ from (by repeat' (first | with_reducible assumption | with_reducible exact Below.refl _ _ | with_reducible refine Below.setCell ?_ ?_ _ | with_reducible refine Below.alloc ?_ ?_ _ | with_reducible refine Below.drew ?_ | with_reducible refine below_drewN ?_ _ | omega | (simp; done) | (simp; omega)))) hb2; obtain ⟨hc2, hf2⟩ := vbcell hb2; have hs2 := hb2.size; (try simp only [World.size_alloc, World.size_setCell, World.size_drew] at hs2); clear hb2)
        all_goals
          go_wp2_with (at_builtin; refine wpList_append_own_at _ rfl (.tmp 55) (.tmp 57) 37 rfl w.heap.size 40 i0 _ 3 32 Tryd.underlying37 hi hz0 hz1 hz2 rfl (by decide) _ acc.length (oCells acc) rfl (vown_below HO.out (by repeat' (first | with_reducible assumption | with_reducible exact Below.refl _ _ | with_reducible refine Below.setCell ?_ ?_ _ | with_reducible refine Below.alloc ?_ ?_ _ | with_reducible refine Below.drew ?_ | with_reducible refine below_drewN ?_ _ | omega | (simp; done) | (simp; omega)))) ⟨_, 0, none⟩ 1 1 [.int .i64 0, .string (text ++ N), .bool true] rfl rfl (by intro j u hj; exact vcells_new _ _ _ _ (by simp) j u hj) (by intro u hu; simp at hu; rcases hu with rfl | rfl | rfl; all_goals rfl) (by unfold maxLen; omega) (by omega) (by simp; omega) ?_; intro v9 w9 hown9 hgrow9 hiff9 hat9; have HO9 := Lib.hid hown9; have HG9 := Lib.hid hgrow9; clear hown9 hgrow9 hiff9 hat9)
          refine ⟨VvRnd.step hkk Hval.out HAC.out HR.out Hok.out HNX.out (by simp [lvNext]) _ (by simp [lvOut, HNN.out]) HO9.out (Below.grown (by have q0 := HB.out; exact vbelow q0 (by repeat' (first | with_reducible assumption | with_reducible exact Below.refl _ _ | with_reducible refine Below.setCell ?_ ?_ _ | with_reducible refine Below.alloc ?_ ?_ _ | with_reducible refine Below.drew ?_ | with_reducible refine below_drewN ?_ _ | omega | (simp; done) | (simp; omega)))) HG9.out (by first | omega | (simp; done) | (simp; omega)) (fun g hg => (HLO.out g hg).1)), ?_⟩
          simp only [intOf]; omega
      · obtain ⟨L, hL⟩ : ∃ L, L = levelOf text.data.toList := ⟨_, rfl⟩
        have CPD := Lib.hid (fun wx => parsed_any text n (by omega) HT2.out wx)
        unfold ParsedPost at CPD
        rw [← hL] at CPD
        have HLL := Lib.hid hL
        clear hL hsn
        go_wp2_with (first
          | (go_at_call 19; (with_reducible refine (CPD.out _).mono ?_); rintro e w2 ⟨rfl, hb2⟩; have hB2 := vbelow (show Below wr.heap.size wr _ from (by repeat' (first | with_reducible assumption | with_reducible exact Below.refl _ _ | with_reducible refine Below.setCell ?_ ?_ _ | with_reducible refine Below.alloc ?_ ?_ _ | with_reducible refine Below.drew ?_ | with_reducible refine below_drewN ?_ _ | omega | (simp; done) | (simp; omega)))) hb2; obtain ⟨hc2, hf2⟩ := vbcell hb2; have hs2 := hb2.size; (try simp only [World.size_alloc, World.size_setCell, World.size_drew] at hs2); clear hb2)
          | (at_builtin; refine wpList_append_own_at _ rfl (.tmp 55) (.tmp 57) 37 rfl w.heap.size 40 i0 _ 3 32 Tryd.underlying37 hi hz0 hz1 hz2 rfl (by decide) _ acc.length (oCells acc) rfl (vown_below HO.out (by repeat' (first | with_reducible assumption | with_reducible exact Below.refl _ _ | with_reducible refine Below.setCell ?_ ?_ _ | with_reducible refine Below.alloc ?_ ?_ _ | with_reducible refine Below.drew ?_ | with_reducible refine below_drewN ?_ _ | omega | (simp; done) | (simp; omega)))) ⟨_, 0, none⟩ 1 1 [.int .i64 0, .string ⟨#[]⟩, .bool L.isSome] rfl rfl (by intro j u hj; exact vcells_new _ _ _ _ (by simp) j u hj) (by intro u hu; simp at hu; rcases hu with rfl | rfl | rfl; all_goals rfl) (by unfold maxLen; omega) (by omega) (by simp; omega) ?_; intro v9 w9 hown9 hgrow9 hiff9 hat9; have HO9 := Lib.hid hown9; have HG9 := Lib.hid hgrow9; clear hown9 hgrow9 hiff9 hat9))
        refine ⟨VvRnd.step hkk Hval.out HAC.out HR.out Hok.out HNX.out (by simp [lvNext, HLL.out]) _ (by simp [lvOut, HLL.out]) HO9.out (Below.grown (by have q0 := HB.out; exact vbelow q0 (by repeat' (first | with_reducible assumption | with_reducible exact Below.refl _ _ | with_reducible refine Below.setCell ?_ ?_ _ | with_reducible refine Below.alloc ?_ ?_ _ | with_reducible refine Below.drew ?_ | with_reducible refine below_drewN ?_ _ | omega | (simp; done) | (simp; omega)))) HG9.out (by first | omega | (simp; done) | (simp; omega)) (fun g hg => (HLO.out g hg).1)), ?_⟩
        simp only [intOf]; omega

end Go.Proofs.YtconeignnananaaDoor.Lv
