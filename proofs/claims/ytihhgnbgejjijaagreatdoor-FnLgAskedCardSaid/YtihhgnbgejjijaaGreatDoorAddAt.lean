/- Record.AddAttrs, of a record without attributes: the walk. -/
import Derived.Test.YtihhgnbgejjijaaGreatDoorGrow
import Derived.Test.YtihhgnbgejjijaaGreatDoorAdd
import Derived.BigQuiet
namespace Go.Proofs.YtihhgnbgejjijaaGreatDoor.Va
set_option linter.unusedVariables false
set_option linter.unusedSimpArgs false
open Go Go.RowKit

theorem own_slice {w : World} {base : Nat} {e : TypeId} {size : Nat} {v : Value} {n : Nat} {xs : List Value} (h : w.ownsRow base e size v n xs) : ∃ A c, v = .slice A n c := by
  rcases h.2 with ⟨rfl, rfl⟩ | ⟨g, cap, cur, rfl, _⟩
  · exact ⟨none, 0, rfl⟩
  · exact ⟨_, cap, rfl⟩
theorem KeepsOn.drewN {P : Nat → Prop} {w w1 : World} (h : KeepsOn P w w1) (n : Nat) : KeepsOn P w (w1.drewN n) := fun b hb hl => h b hb hl
/-- 's[k:]' of attributes. -/
theorem cut_sl (A : Option Addr) (len cap k : Nat) (hk : k ≤ len) (hlc : len ≤ cap) : ∃ A2 c2, (∀ w, (Instr.slice 113 (.slice A len cap) (some (.int .i64 k)) none none).run Tryz.prog w = .ok (.slice A2 (len - k) c2) w) ∧ (k < len → ∀ b o, A = some ⟨b, o, none⟩ → A2 = some ⟨b, o + k * 3, none⟩) := by
  have h0 : (0 : Int) ≤ (k : Int) := by omega
  have h1 : (k : Int) ≤ (len : Int) := by omega
  refine ⟨if cap = k then A else A.map (·.add (k * 3)), cap - k, fun w => ?_, fun h b o e => ?_⟩
  · go_simp
  · subst e
    rw [if_neg (by omega)]
    simp only [Option.map_some, Addr.add_mid]

/-- What AddAttrs leaves. -/
def AdEnd (P : Nat → Prop) (base rb ro : Nat) (rc : Nat → Value) (all : SAttrs) (w : World) (e : Ending) (w' : World) : Prop :=
  e = .returned (.tuple #[]) ∧ ∃ (rc' : Nat → Value) (f' b' : SAttrs) (v : Value) (m : Nat) (ys : List Value), RecU rb ro rc' f'.len v w' ∧ (∀ j, j < 7 → rc' j = rc j) ∧ FrP P w f' rc' 7 ∧ f'.len ≤ 5 ∧
    w'.ownsRow base 111 3 v m ys ∧ RSX P w b' ys ∧ some rb ≠ v.ownBlock ∧ SAttrs.append f' b' = all ∧ Two rb none w w' ∧ NewRow (.slice none 0 0) v w
/-- A round of the first loop; of the second one. -/
def AdR1 (P : Nat → Prop) (rb ro : Nat) (rc : Nat → Value) (l : SAttrs) (b o : Nat) (w : World) (s4 : Value) (wr : World) : Prop :=
  ∃ (k : Nat) (rest : SAttrs) (rc' : Nat → Value) (f : SAttrs), s4 = .int .i64 k ∧ k + rest.len = l.len ∧ RSAs P w rest b (o + k * 3) ∧ RecU rb ro rc' f.len (.slice none 0 0) wr ∧ (∀ j, j < 7 → rc' j = rc j) ∧ FrP P w f rc' 7 ∧ f.len ≤ 5 ∧
    l.full = SAttrs.append f rest.full ∧ Two rb none w wr
def AdR2 (P : Nat → Prop) (base rb ro : Nat) (rc' : Nat → Value) (nf : Nat) (rest : SAttrs) (b o : Nat) (w : World) (s : Value) (wr : World) : Prop :=
  ∃ (j : Nat) (r2 : SAttrs) (b' : SAttrs) (v : Value) (n : Nat) (xs : List Value), s = .int .i64 j ∧ j + r2.len = rest.len ∧ RSAs P w r2 b (o + j * 3) ∧ RecU rb ro rc' nf v wr ∧ wr.ownsRow base 111 3 v n xs ∧ RSX P w b' xs ∧ n = b'.len ∧ rest.full = SAttrs.append b' r2.full ∧
    b'.len + r2.len ≤ rest.len ∧ some rb ≠ v.ownBlock ∧ Two rb none w wr ∧ NewRow (.slice none 0 0) v w

set_option maxRecDepth 100000 in
set_option maxHeartbeats 4000000 in
/-- (*Record).AddAttrs. -/
theorem addAttrs_any {P : Nat → Prop} (base rb ro : Nat) (rc : Nat → Value) (l : SAttrs) (w : World) (A : Option Addr) (len cap : Nat) (hR : RecU rb ro rc 0 (.slice none 0 0) w) (h : RSS P w l A len) (hlc : len ≤ cap) (hlen : l.len ≤ 299999)
    (hP : ∀ b, P b → b < w.heap.size ∧ b ≠ rb) (hbase : base ≤ w.heap.size) :
    Calls Tryz.prog 66 #[.pointer (some ⟨rb, ro, none⟩), .slice A len cap] w (AdEnd P base rb ro rc l.full w) := by
  obtain ⟨i0, hi, hz0, hz1, hz2⟩ := info_parts infoSAttr
  obtain ⟨Q, hQ⟩ : ∃ Q : Ending → World → Prop, Q = AdEnd P base rb ro rc l.full w := ⟨_, rfl⟩
  rw [← hQ]
  have HQ := Lib.hid hQ
  have hrb := hR.lt
  have HP := Lib.hid hP
  have hll := h.1
  obtain ⟨b, o, hA⟩ : ∃ b o, (0 < len → A = some ⟨b, o, none⟩ ∧ P b) ∧ RSAs P w l b o := by
    by_cases hz : 0 < len
    · obtain ⟨b, o, e, hp, hr⟩ := h.2 hz
      exact ⟨b, o, fun _ => ⟨e, hp⟩, hr⟩
    · have : l = .nil := slen_zero (by omega)
      subst this
      exact ⟨0, 0, fun h => absurd h hz, by unfold RSAs; trivial⟩
  have HA := Lib.hid hA.1
  have hst := Lib.hid (show AdR1 P rb ro rc l b o w (.int .i64 0) w from ⟨0, l, rc, .nil, rfl, by omega, by simpa using hA.2, hR, fun _ _ => rfl, trivial, Nat.zero_le _, rfl, Two.refl _ _ _⟩)
  have Hll := Lib.hid hll
  have hsn : ∀ (a : Option Addr) (l c : Nat) (w : World), (binOp .eql 113 (.slice a l c) (.slice none 0 0)).run Tryz.prog w = .ok (.bool a.isNone) w := fun a l c w => Go.Lib.run_eql_slice_nil w 113 111 a l c 0 0 Tryz.underlying113
  have Hcut := Lib.hid (fun k (hk : k ≤ len) => cut_sl A len cap k hk hlc)
  clear hQ hR h hP hA hll hlc
  go_enter Tryz.func66, Tryz.ntmps66
  go_wp2
  go_loopw [4] (fun x wr => AdR1 P rb ro rc l b o w x wr) (fun x _ => len - (intOf x).toNat)
  case atStart => exact hst.out
  case round =>
    clear hst
    obtain ⟨k, rest, rc', f, rfl, hk, hras, hR, hrc, hf, hfl, hval, hT⟩ := hrel
    have hrl := hR.lt
    have hsz := hT.size
    have HT := Lib.hid hT
    have HR := Lib.hid hR
    have HRC := Lib.hid hrc
    have HF := Lib.hid hf
    have HFL := Lib.hid hfl
    have Hval := Lib.hid hval
    have hK : KeepsOn P w wr := hT.keepsOn (fun b hb => (HP.out b hb).2) (fun b hb e => by cases e)
    have HK := Lib.hid hK
    have hll := Hll.out
    have k22 := hR.2.1
    have k23 := hR.2.2.1
    have h5z : (0 : Int) ≤ (f.len : Int) := by omega
    have hk0 : (0 : Int) ≤ (k : Int) := by omega
    by_cases hgo : 0 < rest.len ∧ f.len < 5
    · obtain ⟨hr0, h5⟩ := hgo
      obtain ⟨key, d, r, rfl⟩ := slen_pos hr0
      have hkk : k + 1 + r.len = l.len := by simp only [SAttrs.len] at hk; omega
      have hlt : (k : Int) < (len : Int) := by omega
      obtain ⟨rfl, hpb⟩ := HA.out (by omega)
      have h5i : (f.len : Int) < 5 := by omega
      unfold RSAs at hras
      obtain ⟨e0, ⟨vx, vy, e1, e2, hv⟩, hras'⟩ := hras
      obtain ⟨i2, rfl, hy⟩ := rsv_shape hv
      have q0 := hK.cell hpb e0
      have q1 := hK.cell hpb e1
      have q2 := hK.cell hpb e2
      have hbr : b < wr.heap.size := World.block_lt_of_cell? _ _ q0
      have HV := Lib.hid hv
      have Hr := Lib.hid hras'
      have HEG := Lib.hid (fun wx x y (h : RSV P wx d x y) => emptyGroup_any d wx x y h)
      generalize hG : d.isEmptyGroup = G at HEG
      have HG := Lib.hid hG
      have hrg2 : ¬ wr.heap.size = rb := by omega
      have e1 : ¬ ro + 22 = ro + 7 + f.len * 3 := by omega
      have e2 : ¬ ro + 22 = ro + 7 + f.len * 3 + 1 := by omega
      have e3 : ¬ ro + 22 = ro + 7 + f.len * 3 + 2 := by omega
      clear hras' hv hG hR hrc hf hfl hval hT hK hk hll k23 e0
      rcases hy with rfl | ⟨ty, u2, rfl⟩
      all_goals
        cases G with
        | true =>
          go_wp2_with (go_at_call 110; (refine (HEG.out _ _ _ (HV.out.turn (HK.out.alloc _) (fun _ h _ => h))).mono ?_); rintro e w4 ⟨rfl, hb4⟩; have HB4 := Lib.hid hb4; have hs4 := hb4.size; simp only [World.size_alloc] at hs4; have g3 := (keeps_of_below hb4).cell (cell_new wr _ _ wr.heap.size 0 _ rfl rfl); have g4 := (keeps_of_below hb4).cell (cell_new wr _ _ wr.heap.size 1 _ rfl rfl); have g5 := (keeps_of_below hb4).cell (cell_new wr _ _ wr.heap.size 2 _ rfl rfl); have R4 := Lib.hid (HR.out.keep ((hb4.block rb (by simp; omega)).trans (Below.heap_alloc wr _ rb hrl))); have q22 := R4.out.2.1; have z22 := R4.out.2.2.2 22 (by omega); clear hb4)
          refine ⟨⟨k + 1, r, rc', f, by push_cast; rfl, hkk, by have := Hr.out; rwa [show o + k * 3 + 3 = o + (k + 1) * 3 by omega] at this, R4.out, HRC.out, HF.out, HFL.out, by rw [Hval.out, full_go HG.out], (HT.out.alloc _).below HB4.out⟩, ?_⟩
          simp only [intOf]; omega
        | false =>
          go_wp2_with (go_at_call 110; (refine (HEG.out _ _ _ (HV.out.turn (HK.out.alloc _) (fun _ h _ => h))).mono ?_); rintro e w4 ⟨rfl, hb4⟩; have HB4 := Lib.hid hb4; have hs4 := hb4.size; simp only [World.size_alloc] at hs4; have g3 := (keeps_of_below hb4).cell (cell_new wr _ _ wr.heap.size 0 _ rfl rfl); have g4 := (keeps_of_below hb4).cell (cell_new wr _ _ wr.heap.size 1 _ rfl rfl); have g5 := (keeps_of_below hb4).cell (cell_new wr _ _ wr.heap.size 2 _ rfl rfl); have R4 := Lib.hid (HR.out.keep ((hb4.block rb (by simp; omega)).trans (Below.heap_alloc wr _ rb hrl))); have q22 := R4.out.2.1; have z22 := R4.out.2.2.2 22 (by omega); obtain ⟨p0, p1, p2, z0, z1, z2⟩ := R4.out.at3 h5; clear hb4)
          all_goals
            go_region_law fail
          all_goals
            go_wp2
          all_goals
            refine ⟨⟨k + 1, r, rcPut rc' f.len (.string key) (.int .u64 i2) _, SAttrs.snoc f key d, by push_cast; rfl, hkk, by have := Hr.out; rwa [show o + k * 3 + 3 = o + (k + 1) * 3 by omega] at this, R4.out.put_num h5 (slen_snoc _ _ _) _ _ _, fun j hj => (by unfold rcPut; rw [if_neg (by omega), if_neg (by omega), if_neg (by omega)]; exact HRC.out j hj), frp_put HF.out HV.out, by rw [slen_snoc]; omega, by rw [Hval.out, full_stay HG.out, ssnoc_append], ((((((HT.out.alloc _).below HB4.out).set _ _).set _ _).set _ _).set _ _).drew⟩, ?_⟩
            simp only [intOf]; omega
    · have hcond : (¬ (k : Int) < (len : Int)) ∨ ((k : Int) < (len : Int) ∧ ¬ (f.len : Int) < 5) := by
        by_cases h : 0 < rest.len
        · right; exact ⟨by omega, by omega⟩
        · left; omega
      obtain ⟨A2, c2, hsl, hA2⟩ := Hcut.out k (by omega)
      rw [show len - k = rest.len by omega] at hsl
      have hrs : RSS P w rest A2 rest.len := ⟨rfl, fun hp => ⟨b, o + k * 3, hA2 (by omega) b o (HA.out (by omega)).1, (HA.out (by omega)).2, hras⟩⟩
      have HRS := Lib.hid hrs
      have HAS := Lib.hid hras
      have hfl2 := full_len rest
      have hrl3 : rest.len ≤ 299999 := by omega
      have hn0 : (0 : Int) ≤ (rest.full.len : Int) := by omega
      have hn1 : (rest.full.len : Int) ≤ 299999 := by omega
      have hsub : (rest.len : Int) - (rest.empties : Int) = (rest.full.len : Int) := by omega
      have hkl : (k : Int) ≤ (len : Int) := by omega
      have Hfl2 := Lib.hid hfl2
      have Hk := Lib.hid hk
      have z23 := hR.2.2.2 23 (by omega)
      have HA2 := Lib.hid (fun (h : 0 < rest.len) => And.intro (hA2 (by omega) b o (HA.out (by omega)).1) (HA.out (by omega)).2)
      clear hA2 hrs hfl2 hras hrc hf hfl hval hT hK hk hll hR hgo
      rcases hcond with h1 | ⟨h1, h5i⟩
      all_goals
        go_wp2
      all_goals
        go_quiet (fail)
      all_goals
        go_wp2_with (go_at_call 115; (refine (count_any (P := P) rest _ A2 rest.len c2 (HRS.out.turn (HK.out.drewN _) (fun _ h _ => h)) (by omega)).mono ?_); rintro e w6 ⟨rfl, hb6⟩; have HB6 := Lib.hid hb6; have R6 := Lib.hid (HR.out.keep (show w6.heap[rb]? = wr.heap[rb]? from hb6.block rb hrl)); have q23 := R6.out.2.2.1; have z23 := R6.out.2.2.2 23 (by omega); have hs6 : wr.heap.size ≤ w6.heap.size := hb6.size; clear hb6)
      all_goals
        have hbs : base ≤ w6.drew.heap.size := by show base ≤ w6.heap.size; omega
        have hnn : rest.full.len ≤ 300000 := by omega
        have hrw6 : rb < w6.heap.size := by omega
        have hwr : IntKind.i64.wrap (rest.full.len : Int) = (rest.full.len : Int) := by rw [IntKind.wrap_i64]; omega
        go_region_with (go_at_call 116; ((with_reducible refine (grow_nil rest.full.len base _ hnn hbs).mono ?_)); rintro e w7 ⟨v7, rfl, hown7, hb7, hN7, hz7⟩; obtain ⟨A7, c7, rfl⟩ := own_slice hown7; have HB7 := Lib.hid hb7; have R7 := Lib.hid (R6.out.keep (show w7.heap[rb]? = w6.heap[rb]? from hb7.block rb hrw6)); have q7 := R7.out.2.2.1; have z7 := R7.out.2.2.2 23 (by decide); have HO7 := Lib.hid hown7; have HN7 := Lib.hid hN7; have hs7 : w6.heap.size ≤ w7.heap.size := hb7.size; clear hown7 hb7 hN7 hz7)
      all_goals
        clear hwr
        go_wp2
      all_goals
        have hN7 : (Value.slice A7 0 c7).ownBlock = none ∨ ∃ g, (Value.slice A7 0 c7).ownBlock = some g ∧ w6.heap.size ≤ g := HN7.out
        have hru7 : some rb ≠ (Value.slice A7 0 c7).ownBlock := fun e => by
          rcases hN7 with h | ⟨g, h, hg⟩
          · rw [h] at e; cases e
          · rw [h] at e; injection e with e; omega
        have hst2 : AdR2 P base rb ro rc' f.len rest b (o + k * 3) w (.int .i64 0) (w7.setCell ⟨rb, ro + 23, none⟩ (.slice A7 0 c7)) := ⟨0, rest, .nil, .slice A7 0 c7, 0, [], rfl, by omega, by simpa using HAS.out, R7.out.back _, ownsRow_setCell_other HO7.out (fun e => hru7 e.symm) _, rfl, rfl, rfl, by simp [SAttrs.len], hru7, ((((HT.out.drewN _).below HB6.out).drew).below HB7.out).set _ _, hN7.imp id (fun ⟨g, h, hg⟩ => ⟨g, h, by omega⟩)⟩
        have HST2 := Lib.hid hst2
        clear hst2 hN7 hru7 q7 z7 q23 z23 k22 k23 hsub hn0 hn1
        generalize w7.setCell ⟨rb, ro + 23, none⟩ (.slice A7 0 c7) = w9 at HST2 ⊢
        go_loopw [118] (fun x wx => AdR2 P base rb ro rc' f.len rest b (o + k * 3) w x wx) (fun x _ => rest.len - (intOf x).toNat)
        case atStart => exact HST2.out
        case round =>
          clear HST2
          obtain ⟨j, r2, b', v, n, xs, rfl, hj, hras, hR2, hown, hx, hnb, hfull, hbl, hru, hT2, hN2⟩ := hrel
          have hrl2 := hR2.lt
          have hsz2 := hT2.size
          obtain ⟨Av, cv, rfl⟩ := own_slice hown
          have HR2 := Lib.hid hR2
          have HO2 := Lib.hid hown
          have HX2 := Lib.hid hx
          have HFU := Lib.hid hfull
          have HRU := Lib.hid hru
          have HT2 := Lib.hid hT2
          have HN2 := Lib.hid hN2
          have Hnb := Lib.hid hnb
          have hK2 : KeepsOn P w wr := hT2.keepsOn (fun b hb => (HP.out b hb).2) (fun b hb e => by cases e)
          have HK2 := Lib.hid hK2
          have hj0 : (0 : Int) ≤ (j : Int) := by omega
          have hn3 : n + 1 ≤ 300000 := by omega
          cases r2 with
          | nil =>
            have hje : ¬ ((j : Int) < (rest.len : Int)) := by simp only [SAttrs.len] at hj; omega
            have Hbl := Lib.hid hbl
            clear hj hras hR2 hown hx hnb hfull hbl hru hT2 hN2 hK2
            go_wp2
            refine bodyPost_end (v := .tuple #[]) (by simp [results, Tryz.results66, go_sem]) rfl ?_
            rw [HQ.out]
            exact ⟨rfl, rc', f, b', _, n, xs, HR2.out, HRC.out, HF.out, HFL.out, HO2.out, HX2.out, HRU.out, by rw [Hval.out, HFU.out]; show SAttrs.append f b' = SAttrs.append f (SAttrs.append b' .nil); rw [sappend_nil], HT2.out, HN2.out⟩
          | cons key d r =>
            have hjj : j + 1 + r.len = rest.len := by simp only [SAttrs.len] at hj; omega
            have hjl : (j : Int) < (rest.len : Int) := by omega
            have hbl2 : b'.len + 1 + r.len ≤ rest.len := by simp only [SAttrs.len] at hbl; omega
            obtain ⟨hA2, hpb⟩ := HA2.out (by omega)
            subst hA2
            unfold RSAs at hras
            obtain ⟨e0, ⟨vx, vy, e1, e2, hv⟩, hras'⟩ := hras
            obtain ⟨i2, rfl, hy⟩ := rsv_shape hv
            have q0 := hK2.cell hpb e0
            have q1 := hK2.cell hpb e1
            have q2 := hK2.cell hpb e2
            have hbr : b < wr.heap.size := World.block_lt_of_cell? _ _ q0
            have HV := Lib.hid hv
            have Hr := Lib.hid hras'
            have HEG := Lib.hid (fun wy x y (h : RSV P wy d x y) => emptyGroup_any d wy x y h)
            generalize hG : d.isEmptyGroup = G at HEG
            have HG := Lib.hid hG
            have hrg2 : ¬ wr.heap.size = rb := by omega
            clear hras' hv hG hR2 hown hx hnb hfull hbl hru hT2 hN2 hK2 hj e0
            rcases hy with rfl | ⟨ty, u2, rfl⟩
            all_goals
              cases G with
              | true =>
                go_wp2_with (go_at_call 110; (refine (HEG.out _ _ _ (HV.out.turn (HK2.out.alloc _) (fun _ h _ => h))).mono ?_); rintro e w4 ⟨rfl, hb4⟩; have HB4 := Lib.hid hb4; have hs4 := hb4.size; simp only [World.size_alloc] at hs4; have g3 := (keeps_of_below hb4).cell (cell_new wr _ _ wr.heap.size 0 _ rfl rfl); have g4 := (keeps_of_below hb4).cell (cell_new wr _ _ wr.heap.size 1 _ rfl rfl); have g5 := (keeps_of_below hb4).cell (cell_new wr _ _ wr.heap.size 2 _ rfl rfl); have R4 := Lib.hid (HR2.out.keep ((hb4.block rb (by simp; omega)).trans (Below.heap_alloc wr _ rb hrl2))); have q23 := R4.out.2.2.1; have z23 := R4.out.2.2.2 23 (by omega); have HO4 := Lib.hid (own_below (HO2.out.alloc _) hb4); have hr4 : rb < w4.heap.size := (by omega); clear hb4)
                refine ⟨⟨j + 1, r, b', .slice Av n cv, n, xs, by push_cast; rfl, hjj, by have := Hr.out; rwa [show o + k * 3 + j * 3 + 3 = o + k * 3 + (j + 1) * 3 by omega] at this, R4.out, HO4.out, HX2.out, Hnb.out, by rw [HFU.out, full_go HG.out], by omega, HRU.out, (HT2.out.alloc _).below HB4.out, HN2.out⟩, ?_⟩
                simp only [intOf]; omega
              | false =>
                go_wp2_with (go_at_call 110; (refine (HEG.out _ _ _ (HV.out.turn (HK2.out.alloc _) (fun _ h _ => h))).mono ?_); rintro e w4 ⟨rfl, hb4⟩; have HB4 := Lib.hid hb4; have hs4 := hb4.size; simp only [World.size_alloc] at hs4; have g3 := (keeps_of_below hb4).cell (cell_new wr _ _ wr.heap.size 0 _ rfl rfl); have g4 := (keeps_of_below hb4).cell (cell_new wr _ _ wr.heap.size 1 _ rfl rfl); have g5 := (keeps_of_below hb4).cell (cell_new wr _ _ wr.heap.size 2 _ rfl rfl); have R4 := Lib.hid (HR2.out.keep ((hb4.block rb (by simp; omega)).trans (Below.heap_alloc wr _ rb hrl2))); have q23 := R4.out.2.2.1; have z23 := R4.out.2.2.2 23 (by omega); have HO4 := Lib.hid (own_below (HO2.out.alloc _) hb4); have hr4 : rb < w4.heap.size := (by omega); clear hb4)
                all_goals
                  go_region_law (first
                    | (refine step_append_lies _ rfl (.tmp 130) (.tmp 132) 113 rfl base 111 i0 _ 3 40 Tryz.underlying113 hi hz0 hz1 hz2 rfl (by decide) _ n xs rfl ((HO4.out.drew).alloc _) ⟨_, 0, none⟩ 1 1 [.string key, .int .u64 i2, .nilIface] rfl rfl (by intro j u hj; exact cells_new _ _ _ _ (by simp) j u hj) (by intro u hu; simp at hu; rcases hu with rfl | rfl | rfl; all_goals rfl) (by decide) (by unfold maxLen; omega) (by omega) (by simp; omega) _ rfl ?_; intro x8 cap8 w8 hown8 hgrow8 hat8 hlt8; have q8 : w8.cell? ⟨rb, ro + 23, none⟩ = some (.slice Av n cv) := ((World.cell?_of_block (a := ⟨rb, ro + 23, none⟩) (hgrow8.block rb (by simp; omega) HRU.out)).trans (by simp [go_sem, q23, hr4])); have z8 : w8.frozen? ⟨rb, ro + 23, none⟩ = false := ((World.frozen?_of_block (a := ⟨rb, ro + 23, none⟩) (hgrow8.block rb (by simp; omega) HRU.out)).trans (by simp [go_sem, z23, hr4])); have HO8 := Lib.hid hown8; have HG8 := Lib.hid hgrow8; have HA8 := Lib.hid hat8; clear hown8 hgrow8 hat8 hlt8)
                    | (refine step_append_lies _ rfl (.tmp 130) (.tmp 132) 113 rfl base 111 i0 _ 3 40 Tryz.underlying113 hi hz0 hz1 hz2 rfl (by decide) _ n xs rfl ((HO4.out.drew).alloc _) ⟨_, 0, none⟩ 1 1 [.string key, .int .u64 i2, .iface ty u2] rfl rfl (by intro j u hj; exact cells_new _ _ _ _ (by simp) j u hj) (by intro u hu; simp at hu; rcases hu with rfl | rfl | rfl; all_goals rfl) (by decide) (by unfold maxLen; omega) (by omega) (by simp; omega) _ rfl ?_; intro x8 cap8 w8 hown8 hgrow8 hat8 hlt8; have q8 : w8.cell? ⟨rb, ro + 23, none⟩ = some (.slice Av n cv) := ((World.cell?_of_block (a := ⟨rb, ro + 23, none⟩) (hgrow8.block rb (by simp; omega) HRU.out)).trans (by simp [go_sem, q23, hr4])); have z8 : w8.frozen? ⟨rb, ro + 23, none⟩ = false := ((World.frozen?_of_block (a := ⟨rb, ro + 23, none⟩) (hgrow8.block rb (by simp; omega) HRU.out)).trans (by simp [go_sem, z23, hr4])); have HO8 := Lib.hid hown8; have HG8 := Lib.hid hgrow8; have HA8 := Lib.hid hat8; clear hown8 hgrow8 hat8 hlt8))
                all_goals
                  go_wp2
                all_goals
                  obtain hAt : (Value.slice Av n cv).ownBlock = some x8 ∨ x8 = _ := HA8.out
                  have hx8 : (Value.slice Av n cv).ownBlock = some x8 ∨ w4.heap.size ≤ x8 := hAt.imp id (fun h => by rw [h]; simp)
                  have hG8 : World.grownBy _ w8 (Value.slice Av n cv).ownBlock := HG8.out
                  have hbx : some rb ≠ some x8 := fun e => by
                    injection e with e
                    rcases hx8 with h | h
                    · exact HRU.out (by rw [h, e])
                    · omega
                  have hN8 : NewRow (Value.slice Av n cv) (.slice (some ⟨x8, 0, none⟩) (n + 1) cap8) w4 := hx8.imp (fun h => h.symm) (fun h => ⟨x8, rfl, h⟩)
                  have hT4 : Two rb none w w4 := (HT2.out.alloc _).below HB4.out
                  have hT8 : Two rb none w (w8.setCell ⟨rb, ro + 23, none⟩ (.slice (some ⟨x8, 0, none⟩) (n + 1) cap8)) := ((hT4.drew.alloc _).trans (Two.of_grown hG8) HN2.out).set _ _
                  have hR8 := (R4.out.drew.keep (w' := w8) ((hG8.block rb (by simp [World.drew]; omega) HRU.out).trans (Below.heap_alloc _ _ rb (by simpa [World.drew] using hr4)))).back (.slice (some ⟨x8, 0, none⟩) (n + 1) cap8)
                  refine ⟨⟨j + 1, r, SAttrs.snoc b' key d, .slice (some ⟨x8, 0, none⟩) (n + 1) cap8, n + 1, _, by push_cast; rfl, hjj, by have := Hr.out; rwa [show o + k * 3 + j * 3 + 3 = o + k * 3 + (j + 1) * 3 by omega] at this, hR8, ownsRow_setCell_other HO8.out (fun e => hbx e.symm) _, RSX.snoc HV.out b' xs HX2.out, by rw [slen_snoc, Hnb.out], by rw [HFU.out, full_stay HG.out, ssnoc_append], by rw [slen_snoc]; omega, hbx, hT8, (HN2.out : NewRow (.slice none 0 0) _ w).trans hN8 hT4.size⟩, ?_⟩
                  simp only [intOf]; omega

end Go.Proofs.YtihhgnbgejjijaaGreatDoor.Va
