/- slices.Grow of no attributes: the walk. -/
import Derived.Test.YtihhgnbgejjijaaGreatDoorClosA
import Derived.Lib.AppendZerosOnto
import Derived.OwnWalk
import Derived.Test.YtihhgnbgejjijaaGreatDoorAdd
import Derived.BigQuiet
import Derived.Test.YtihhgnbgejjijaaGreatDoorLog
namespace Go.Proofs.YtihhgnbgejjijaaGreatDoor.Va
set_option linter.unusedVariables false
set_option linter.unusedSimpArgs false
open Go Go.RowKit

theorem zeros_size {z : Array Value} (hz : z.size = 3) {n G : Nat} (h : n ≤ G) : ((#[] : Array Value) ++ Builtin.zeroCells z n ++ Builtin.zeroCells z (G - n)).size = G * 3 := by
  simp only [Array.size_append, size_zeroCells, hz]
  show 0 + n * 3 + (G - n) * 3 = G * 3
  omega
/-- A row of one's own, without elements. -/
def GrowEnd (n base : Nat) (w : World) (e : Ending) (w' : World) : Prop := ∃ v, e = .returned v ∧ w'.ownsRow base 111 3 v 0 [] ∧ Below w.heap.size w w' ∧ NewRow (.slice none 0 0) v w ∧ (n = 0 → v = .slice none 0 0)

set_option maxRecDepth 100000 in
set_option maxHeartbeats 1000000 in
/-- slices.Grow, of the nil row. -/
theorem grow_nil (n base : Nat) (w : World) (hn : n ≤ 300000) (hb : base ≤ w.heap.size) : Calls Tryz.prog 116 #[.slice none 0 0, .int .i64 n] w (GrowEnd n base w) := by
  obtain ⟨i0, hi, hz0, hz1, hz2⟩ := info_parts infoSAttr
  obtain ⟨Q, hQ⟩ : ∃ Q : Ending → World → Prop, Q = GrowEnd n base w := ⟨_, rfl⟩
  rw [← hQ]
  have HQ := Lib.hid hQ
  clear hQ
  have h0 : (0 : Int) ≤ (n : Int) := by omega
  have h1 : (n : Int) ≤ 300000 := by omega
  by_cases hz : n = 0
  · subst hz
    go_enter Tryz.func116, Tryz.ntmps116
    go_wp2
    rw [HQ.out]
    exact ⟨_, rfl, World.ownsRow_nil _ _ _ _, Below.refl _ _, .inl rfl, fun _ => rfl⟩
  · have hp : (0 : Int) < (n : Int) := by omega
    have hap := Go.Lib.run_append_grow_zeros w 113 3 113 111 i0 _ .i64 .i64 Tryz.underlying113 Tryz.underlying3 hi hz0 none 0 0 [] (by simp [Builtin.firstCells]) n (by omega) (by omega) (by omega) (by omega) (by rw [hz2]; omega) (by rw [hz2]; exact growslice_fits (by omega) (by omega))
    rw [Nat.zero_add] at hap
    have hG := grownCap_ge w n 0 111
    have hGm := grownCap_le_maxLen w n 0 111 (by unfold maxLen; omega)
    generalize grownCap w n 0 111 = G at hap hG hGm
    have hCs := zeros_size (z := (Value.agg #[.string ByteArray.empty, .int .u64 0, .nilIface]).cells) rfl hG
    have hap : (Builtin.append_ #[113, 3] 113 #[.slice none 0 0, .int .i64 n]).run Tryz.prog w = .ok (.slice (some ⟨w.heap.size, 0, none⟩) n G) (w.drew.alloc (.cells ((#[] : Array Value) ++ Builtin.zeroCells (Value.agg #[.string ByteArray.empty, .int .u64 0, .nilIface]).cells n ++ Builtin.zeroCells (Value.agg #[.string ByteArray.empty, .int .u64 0, .nilIface]).cells (G - n)) 111)) := hap
    generalize ((#[] : Array Value) ++ Builtin.zeroCells (Value.agg #[.string ByteArray.empty, .int .u64 0, .nilIface]).cells n ++ Builtin.zeroCells (Value.agg #[.string ByteArray.empty, .int .u64 0, .nilIface]).cells (G - n)) = C at hap hCs
    have hown : ((w.drew).alloc (.cells C 111)).ownsRow base 111 3 (.slice (some ⟨w.heap.size, 0, none⟩) 0 G) 0 [] := World.ownsRow_made w.drew C G hb hGm hCs
    have hB : Below w.heap.size w ((w.drew).alloc (.cells C 111)) := (Below.refl _ _).drew.alloc (Nat.le_refl _) _
    have HO := Lib.hid (And.intro hown hB)
    unfold maxLen at hGm
    generalize ((w.drew).alloc (.cells C 111)) = w2 at hap HO
    have HAP := Lib.hid hap
    clear hap hown hB
    have hz3 : (0 : Int) ≤ (G : Int) := by omega
    go_enter Tryz.func116, Tryz.ntmps116
    go_wp2_with (at_builtin; refine Lib.wpList_append_run _ rfl _ _ _ _ rfl _ _ rfl rfl _ _ HAP.out ?_)
    rw [HQ.out]
    exact ⟨_, rfl, HO.out.1, HO.out.2, .inr ⟨w.heap.size, rfl, Nat.le_refl _⟩, fun h => absurd h hz⟩

end Go.Proofs.YtihhgnbgejjijaaGreatDoor.Va

/- Record.AddAttrs, of a record without attributes: the walk. -/
namespace Go.Proofs.YtihhgnbgejjijaaGreatDoor.Va
set_option linter.unusedVariables false
set_option linter.unusedSimpArgs false
open Go Go.RowKit

theorem own_slice {w : World} {base : Nat} {e : TypeId} {size : Nat} {v : Value} {n : Nat} {xs : List Value} (h : w.ownsRow base e size v n xs) : ∃ A c, v = .slice A n c := by
  rcases h.2 with ⟨rfl, rfl⟩ | ⟨g, cap, cur, rfl, _⟩
  · exact ⟨none, 0, rfl⟩
  · exact ⟨_, cap, rfl⟩
theorem KeepsOn.drewN {P : Nat → Prop} {w w1 : World} (h : KeepsOn P w w1) (n : Nat) : KeepsOn P w (w1.drewN n) := fun b hb hl => h b hb hl
/-- 's[k:]' of attributes. -/
theorem cut_sl (A : Option Addr) (len cap k : Nat) (hk : k ≤ len) (hlc : len ≤ cap) : ∃ A2 c2, (∀ w, (Instr.slice 113 (.slice A len cap) (some (.int .i64 k)) none none).run Tryz.prog w = .ok (.slice A2 (len - k) c2) w) ∧ (k < len → ∀ b o, A = some ⟨b, o, none⟩ → A2 = some ⟨b, o + k * 3, none⟩) := by
  have h0 : (0 : Int) ≤ (k : Int) := by omega
  have h1 : (k : Int) ≤ (len : Int) := by omega
  refine ⟨if cap = k then A else A.map (·.add (k * 3)), cap - k, fun w => ?_, fun h b o e => ?_⟩
  · go_simp
  · subst e
    rw [if_neg (by omega)]
    simp only [Option.map_some, Addr.add_mid]

/-- What AddAttrs leaves. -/
def AdEnd (P : Nat → Prop) (base rb ro : Nat) (rc : Nat → Value) (all : SAttrs) (w : World) (e : Ending) (w' : World) : Prop :=
  e = .returned (.tuple #[]) ∧ ∃ (rc' : Nat → Value) (f' b' : SAttrs) (v : Value) (m : Nat) (ys : List Value), RecU rb ro rc' f'.len v w' ∧ (∀ j, j < 7 → rc' j = rc j) ∧ FrP P w f' rc' 7 ∧ f'.len ≤ 5 ∧
    w'.ownsRow base 111 3 v m ys ∧ RSX P w b' ys ∧ some rb ≠ v.ownBlock ∧ SAttrs.append f' b' = all ∧ Two rb none w w' ∧ NewRow (.slice none 0 0) v w
/-- A round of the first loop; of the second one. -/
def AdR1 (P : Nat → Prop) (rb ro : Nat) (rc : Nat → Value) (l : SAttrs) (b o : Nat) (w : World) (s4 : Value) (wr : World) : Prop :=
  ∃ (k : Nat) (rest : SAttrs) (rc' : Nat → Value) (f : SAttrs), s4 = .int .i64 k ∧ k + rest.len = l.len ∧ RSAs P w rest b (o + k * 3) ∧ RecU rb ro rc' f.len (.slice none 0 0) wr ∧ (∀ j, j < 7 → rc' j = rc j) ∧ FrP P w f rc' 7 ∧ f.len ≤ 5 ∧
    l.full = SAttrs.append f rest.full ∧ Two rb none w wr
def AdR2 (P : Nat → Prop) (base rb ro : Nat) (rc' : Nat → Value) (nf : Nat) (rest : SAttrs) (b o : Nat) (w : World) (s : Value) (wr : World) : Prop :=
  ∃ (j : Nat) (r2 : SAttrs) (b' : SAttrs) (v : Value) (n : Nat) (xs : List Value), s = .int .i64 j ∧ j + r2.len = rest.len ∧ RSAs P w r2 b (o + j * 3) ∧ RecU rb ro rc' nf v wr ∧ wr.ownsRow base 111 3 v n xs ∧ RSX P w b' xs ∧ n = b'.len ∧ rest.full = SAttrs.append b' r2.full ∧
    b'.len + r2.len ≤ rest.len ∧ some rb ≠ v.ownBlock ∧ Two rb none w wr ∧ NewRow (.slice none 0 0) v w

set_option maxRecDepth 100000 in
set_option maxHeartbeats 4000000 in
/-- (*Record).AddAttrs. -/
theorem addAttrs_any {P : Nat → Prop} (base rb ro : Nat) (rc : Nat → Value) (l : SAttrs) (w : World) (A : Option Addr) (len cap : Nat) (hR : RecU rb ro rc 0 (.slice none 0 0) w) (h : RSS P w l A len) (hlc : len ≤ cap) (hlen : l.len ≤ 299999)
    (hP : ∀ b, P b → b < w.heap.size ∧ b ≠ rb) (hbase : base ≤ w.heap.size) :
    Calls Tryz.prog 66 #[.pointer (some ⟨rb, ro, none⟩), .slice A len cap] w (AdEnd P base rb ro rc l.full w) := by
  obtain ⟨i0, hi, hz0, hz1, hz2⟩ := info_parts infoSAttr
  obtain ⟨Q, hQ⟩ : ∃ Q : Ending → World → Prop, Q = AdEnd P base rb ro rc l.full w := ⟨_, rfl⟩
  rw [← hQ]
  have HQ := Lib.hid hQ
  have hrb := hR.lt
  have HP := Lib.hid hP
  have hll := h.1
  obtain ⟨b, o, hA⟩ : ∃ b o, (0 < len → A = some ⟨b, o, none⟩ ∧ P b) ∧ RSAs P w l b o := by
    by_cases hz : 0 < len
    · obtain ⟨b, o, e, hp, hr⟩ := h.2 hz
      exact ⟨b, o, fun _ => ⟨e, hp⟩, hr⟩
    · have : l = .nil := slen_zero (by omega)
      subst this
      exact ⟨0, 0, fun h => absurd h hz, by unfold RSAs; trivial⟩
  have HA := Lib.hid hA.1
  have hst := Lib.hid (show AdR1 P rb ro rc l b o w (.int .i64 0) w from ⟨0, l, rc, .nil, rfl, by omega, by simpa using hA.2, hR, fun _ _ => rfl, trivial, Nat.zero_le _, rfl, Two.refl _ _ _⟩)
  have Hll := Lib.hid hll
  have hsn : ∀ (a : Option Addr) (l c : Nat) (w : World), (binOp .eql 113 (.slice a l c) (.slice none 0 0)).run Tryz.prog w = .ok (.bool a.isNone) w := fun a l c w => Go.Lib.run_eql_slice_nil w 113 111 a l c 0 0 Tryz.underlying113
  have Hcut := Lib.hid (fun k (hk : k ≤ len) => cut_sl A len cap k hk hlc)
  clear hQ hR h hP hA hll hlc
  go_enter Tryz.func66, Tryz.ntmps66
  go_wp2
  go_loopw [4] (fun x wr => AdR1 P rb ro rc l b o w x wr) (fun x _ => len - (intOf x).toNat)
  case atStart => exact hst.out
  case round =>
    clear hst
    obtain ⟨k, rest, rc', f, rfl, hk, hras, hR, hrc, hf, hfl, hval, hT⟩ := hrel
    have hrl := hR.lt
    have hsz := hT.size
    have HT := Lib.hid hT
    have HR := Lib.hid hR
    have HRC := Lib.hid hrc
    have HF := Lib.hid hf
    have HFL := Lib.hid hfl
    have Hval := Lib.hid hval
    have hK : KeepsOn P w wr := hT.keepsOn (fun b hb => (HP.out b hb).2) (fun b hb e => by cases e)
    have HK := Lib.hid hK
    have hll := Hll.out
    have k22 := hR.2.1
    have k23 := hR.2.2.1
    have h5z : (0 : Int) ≤ (f.len : Int) := by omega
    have hk0 : (0 : Int) ≤ (k : Int) := by omega
    by_cases hgo : 0 < rest.len ∧ f.len < 5
    · obtain ⟨hr0, h5⟩ := hgo
      obtain ⟨key, d, r, rfl⟩ := slen_pos hr0
      have hkk : k + 1 + r.len = l.len := by simp only [SAttrs.len] at hk; omega
      have hlt : (k : Int) < (len : Int) := by omega
      obtain ⟨rfl, hpb⟩ := HA.out (by omega)
      have h5i : (f.len : Int) < 5 := by omega
      unfold RSAs at hras
      obtain ⟨e0, ⟨vx, vy, e1, e2, hv⟩, hras'⟩ := hras
      obtain ⟨i2, rfl, hy⟩ := rsv_shape hv
      have q0 := hK.cell hpb e0
      have q1 := hK.cell hpb e1
      have q2 := hK.cell hpb e2
      have hbr : b < wr.heap.size := World.block_lt_of_cell? _ _ q0
      have HV := Lib.hid hv
      have Hr := Lib.hid hras'
      have HEG := Lib.hid (fun wx x y (h : RSV P wx d x y) => emptyGroup_any d wx x y h)
      generalize hG : d.isEmptyGroup = G at HEG
      have HG := Lib.hid hG
      have hrg2 : ¬ wr.heap.size = rb := by omega
      have e1 : ¬ ro + 22 = ro + 7 + f.len * 3 := by omega
      have e2 : ¬ ro + 22 = ro + 7 + f.len * 3 + 1 := by omega
      have e3 : ¬ ro + 22 = ro + 7 + f.len * 3 + 2 := by omega
      clear hras' hv hG hR hrc hf hfl hval hT hK hk hll k23 e0
      rcases hy with rfl | ⟨ty, u2, rfl⟩
      all_goals
        cases G with
        | true =>
          go_wp2_with (go_at_call 110; (refine (HEG.out _ _ _ (HV.out.turn (HK.out.alloc _) (fun _ h _ => h))).mono ?_); rintro e w4 ⟨rfl, hb4⟩; have HB4 := Lib.hid hb4; have hs4 := hb4.size; simp only [World.size_alloc] at hs4; have g3 := (keeps_of_below hb4).cell (cell_new wr _ _ wr.heap.size 0 _ rfl rfl); have g4 := (keeps_of_below hb4).cell (cell_new wr _ _ wr.heap.size 1 _ rfl rfl); have g5 := (keeps_of_below hb4).cell (cell_new wr _ _ wr.heap.size 2 _ rfl rfl); have R4 := Lib.hid (HR.out.keep ((hb4.block rb (by simp; omega)).trans (Below.heap_alloc wr _ rb hrl))); have q22 := R4.out.2.1; have z22 := R4.out.2.2.2 22 (by omega); clear hb4)
          refine ⟨⟨k + 1, r, rc', f, by push_cast; rfl, hkk, by have := Hr.out; rwa [show o + k * 3 + 3 = o + (k + 1) * 3 by omega] at this, R4.out, HRC.out, HF.out, HFL.out, by rw [Hval.out, full_go HG.out], (HT.out.alloc _).below HB4.out⟩, ?_⟩
          simp only [intOf]; omega
        | false =>
          go_wp2_with (go_at_call 110; (refine (HEG.out _ _ _ (HV.out.turn (HK.out.alloc _) (fun _ h _ => h))).mono ?_); rintro e w4 ⟨rfl, hb4⟩; have HB4 := Lib.hid hb4; have hs4 := hb4.size; simp only [World.size_alloc] at hs4; have g3 := (keeps_of_below hb4).cell (cell_new wr _ _ wr.heap.size 0 _ rfl rfl); have g4 := (keeps_of_below hb4).cell (cell_new wr _ _ wr.heap.size 1 _ rfl rfl); have g5 := (keeps_of_below hb4).cell (cell_new wr _ _ wr.heap.size 2 _ rfl rfl); have R4 := Lib.hid (HR.out.keep ((hb4.block rb (by simp; omega)).trans (Below.heap_alloc wr _ rb hrl))); have q22 := R4.out.2.1; have z22 := R4.out.2.2.2 22 (by omega); obtain ⟨p0, p1, p2, z0, z1, z2⟩ := R4.out.at3 h5; clear hb4)
          all_goals
            go_region_law fail
          all_goals
            go_wp2
          all_goals
            refine ⟨⟨k + 1, r, rcPut rc' f.len (.string key) (.int .u64 i2) _, SAttrs.snoc f key d, by push_cast; rfl, hkk, by have := Hr.out; rwa [show o + k * 3 + 3 = o + (k + 1) * 3 by omega] at this, R4.out.put_num h5 (slen_snoc _ _ _) _ _ _, fun j hj => (by unfold rcPut; rw [if_neg (by omega), if_neg (by omega), if_neg (by omega)]; exact HRC.out j hj), frp_put HF.out HV.out, by rw [slen_snoc]; omega, by rw [Hval.out, full_stay HG.out, ssnoc_append], ((((((HT.out.alloc _).below HB4.out).set _ _).set _ _).set _ _).set _ _).drew⟩, ?_⟩
            simp only [intOf]; omega
    · have hcond : (¬ (k : Int) < (len : Int)) ∨ ((k : Int) < (len : Int) ∧ ¬ (f.len : Int) < 5) := by
        by_cases h : 0 < rest.len
        · right; exact ⟨by omega, by omega⟩
        · left; omega
      obtain ⟨A2, c2, hsl, hA2⟩ := Hcut.out k (by omega)
      rw [show len - k = rest.len by omega] at hsl
      have hrs : RSS P w rest A2 rest.len := ⟨rfl, fun hp => ⟨b, o + k * 3, hA2 (by omega) b o (HA.out (by omega)).1, (HA.out (by omega)).2, hras⟩⟩
      have HRS := Lib.hid hrs
      have HAS := Lib.hid hras
      have hfl2 := full_len rest
      have hrl3 : rest.len ≤ 299999 := by omega
      have hn0 : (0 : Int) ≤ (rest.full.len : Int) := by omega
      have hn1 : (rest.full.len : Int) ≤ 299999 := by omega
      have hsub : (rest.len : Int) - (rest.empties : Int) = (rest.full.len : Int) := by omega
      have hkl : (k : Int) ≤ (len : Int) := by omega
      have Hfl2 := Lib.hid hfl2
      have Hk := Lib.hid hk
      have z23 := hR.2.2.2 23 (by omega)
      have HA2 := Lib.hid (fun (h : 0 < rest.len) => And.intro (hA2 (by omega) b o (HA.out (by omega)).1) (HA.out (by omega)).2)
      clear hA2 hrs hfl2 hras hrc hf hfl hval hT hK hk hll hR hgo
      rcases hcond with h1 | ⟨h1, h5i⟩
      all_goals
        go_wp2
      all_goals
        go_quiet (fail)
      all_goals
        go_wp2_with (go_at_call 115; (refine (count_any (P := P) rest _ A2 rest.len c2 (HRS.out.turn (HK.out.drewN _) (fun _ h _ => h)) (by omega)).mono ?_); rintro e w6 ⟨rfl, hb6⟩; have HB6 := Lib.hid hb6; have R6 := Lib.hid (HR.out.keep (show w6.heap[rb]? = wr.heap[rb]? from hb6.block rb hrl)); have q23 := R6.out.2.2.1; have z23 := R6.out.2.2.2 23 (by omega); have hs6 : wr.heap.size ≤ w6.heap.size := hb6.size; clear hb6)
      all_goals
        have hbs : base ≤ w6.drew.heap.size := by show base ≤ w6.heap.size; omega
        have hnn : rest.full.len ≤ 300000 := by omega
        have hrw6 : rb < w6.heap.size := by omega
        have hwr : IntKind.i64.wrap (rest.full.len : Int) = (rest.full.len : Int) := by rw [IntKind.wrap_i64]; omega
        go_region_with (go_at_call 116; ((with_reducible refine (grow_nil rest.full.len base _ hnn hbs).mono ?_)); rintro e w7 ⟨v7, rfl, hown7, hb7, hN7, hz7⟩; obtain ⟨A7, c7, rfl⟩ := own_slice hown7; have HB7 := Lib.hid hb7; have R7 := Lib.hid (R6.out.keep (show w7.heap[rb]? = w6.heap[rb]? from hb7.block rb hrw6)); have q7 := R7.out.2.2.1; have z7 := R7.out.2.2.2 23 (by decide); have HO7 := Lib.hid hown7; have HN7 := Lib.hid hN7; have hs7 : w6.heap.size ≤ w7.heap.size := hb7.size; clear hown7 hb7 hN7 hz7)
      all_goals
        clear hwr
        go_wp2
      all_goals
        have hN7 : (Value.slice A7 0 c7).ownBlock = none ∨ ∃ g, (Value.slice A7 0 c7).ownBlock = some g ∧ w6.heap.size ≤ g := HN7.out
        have hru7 : some rb ≠ (Value.slice A7 0 c7).ownBlock := fun e => by
          rcases hN7 with h | ⟨g, h, hg⟩
          · rw [h] at e; cases e
          · rw [h] at e; injection e with e; omega
        have hst2 : AdR2 P base rb ro rc' f.len rest b (o + k * 3) w (.int .i64 0) (w7.setCell ⟨rb, ro + 23, none⟩ (.slice A7 0 c7)) := ⟨0, rest, .nil, .slice A7 0 c7, 0, [], rfl, by omega, by simpa using HAS.out, R7.out.back _, ownsRow_setCell_other HO7.out (fun e => hru7 e.symm) _, rfl, rfl, rfl, by simp [SAttrs.len], hru7, ((((HT.out.drewN _).below HB6.out).drew).below HB7.out).set _ _, hN7.imp id (fun ⟨g, h, hg⟩ => ⟨g, h, by omega⟩)⟩
        have HST2 := Lib.hid hst2
        clear hst2 hN7 hru7 q7 z7 q23 z23 k22 k23 hsub hn0 hn1
        generalize w7.setCell ⟨rb, ro + 23, none⟩ (.slice A7 0 c7) = w9 at HST2 ⊢
        go_loopw [118] (fun x wx => AdR2 P base rb ro rc' f.len rest b (o + k * 3) w x wx) (fun x _ => rest.len - (intOf x).toNat)
        case atStart => exact HST2.out
        case round =>
          clear HST2
          obtain ⟨j, r2, b', v, n, xs, rfl, hj, hras, hR2, hown, hx, hnb, hfull, hbl, hru, hT2, hN2⟩ := hrel
          have hrl2 := hR2.lt
          have hsz2 := hT2.size
          obtain ⟨Av, cv, rfl⟩ := own_slice hown
          have HR2 := Lib.hid hR2
          have HO2 := Lib.hid hown
          have HX2 := Lib.hid hx
          have HFU := Lib.hid hfull
          have HRU := Lib.hid hru
          have HT2 := Lib.hid hT2
          have HN2 := Lib.hid hN2
          have Hnb := Lib.hid hnb
          have hK2 : KeepsOn P w wr := hT2.keepsOn (fun b hb => (HP.out b hb).2) (fun b hb e => by cases e)
          have HK2 := Lib.hid hK2
          have hj0 : (0 : Int) ≤ (j : Int) := by omega
          have hn3 : n + 1 ≤ 300000 := by omega
          cases r2 with
          | nil =>
            have hje : ¬ ((j : Int) < (rest.len : Int)) := by simp only [SAttrs.len] at hj; omega
            have Hbl := Lib.hid hbl
            clear hj hras hR2 hown hx hnb hfull hbl hru hT2 hN2 hK2
            go_wp2
            refine bodyPost_end (v := .tuple #[]) (by simp [results, Tryz.results66, go_sem]) rfl ?_
            rw [HQ.out]
            exact ⟨rfl, rc', f, b', _, n, xs, HR2.out, HRC.out, HF.out, HFL.out, HO2.out, HX2.out, HRU.out, by rw [Hval.out, HFU.out]; show SAttrs.append f b' = SAttrs.append f (SAttrs.append b' .nil); rw [sappend_nil], HT2.out, HN2.out⟩
          | cons key d r =>
            have hjj : j + 1 + r.len = rest.len := by simp only [SAttrs.len] at hj; omega
            have hjl : (j : Int) < (rest.len : Int) := by omega
            have hbl2 : b'.len + 1 + r.len ≤ rest.len := by simp only [SAttrs.len] at hbl; omega
            obtain ⟨hA2, hpb⟩ := HA2.out (by omega)
            subst hA2
            unfold RSAs at hras
            obtain ⟨e0, ⟨vx, vy, e1, e2, hv⟩, hras'⟩ := hras
            obtain ⟨i2, rfl, hy⟩ := rsv_shape hv
            have q0 := hK2.cell hpb e0
            have q1 := hK2.cell hpb e1
            have q2 := hK2.cell hpb e2
            have hbr : b < wr.heap.size := World.block_lt_of_cell? _ _ q0
            have HV := Lib.hid hv
            have Hr := Lib.hid hras'
            have HEG := Lib.hid (fun wy x y (h : RSV P wy d x y) => emptyGroup_any d wy x y h)
            generalize hG : d.isEmptyGroup = G at HEG
            have HG := Lib.hid hG
            have hrg2 : ¬ wr.heap.size = rb := by omega
            clear hras' hv hG hR2 hown hx hnb hfull hbl hru hT2 hN2 hK2 hj e0
            rcases hy with rfl | ⟨ty, u2, rfl⟩
            all_goals
              cases G with
              | true =>
                go_wp2_with (go_at_call 110; (refine (HEG.out _ _ _ (HV.out.turn (HK2.out.alloc _) (fun _ h _ => h))).mono ?_); rintro e w4 ⟨rfl, hb4⟩; have HB4 := Lib.hid hb4; have hs4 := hb4.size; simp only [World.size_alloc] at hs4; have g3 := (keeps_of_below hb4).cell (cell_new wr _ _ wr.heap.size 0 _ rfl rfl); have g4 := (keeps_of_below hb4).cell (cell_new wr _ _ wr.heap.size 1 _ rfl rfl); have g5 := (keeps_of_below hb4).cell (cell_new wr _ _ wr.heap.size 2 _ rfl rfl); have R4 := Lib.hid (HR2.out.keep ((hb4.block rb (by simp; omega)).trans (Below.heap_alloc wr _ rb hrl2))); have q23 := R4.out.2.2.1; have z23 := R4.out.2.2.2 23 (by omega); have HO4 := Lib.hid (own_below (HO2.out.alloc _) hb4); have hr4 : rb < w4.heap.size := (by omega); clear hb4)
                refine ⟨⟨j + 1, r, b', .slice Av n cv, n, xs, by push_cast; rfl, hjj, by have := Hr.out; rwa [show o + k * 3 + j * 3 + 3 = o + k * 3 + (j + 1) * 3 by omega] at this, R4.out, HO4.out, HX2.out, Hnb.out, by rw [HFU.out, full_go HG.out], by omega, HRU.out, (HT2.out.alloc _).below HB4.out, HN2.out⟩, ?_⟩
                simp only [intOf]; omega
              | false =>
                go_wp2_with (go_at_call 110; (refine (HEG.out _ _ _ (HV.out.turn (HK2.out.alloc _) (fun _ h _ => h))).mono ?_); rintro e w4 ⟨rfl, hb4⟩; have HB4 := Lib.hid hb4; have hs4 := hb4.size; simp only [World.size_alloc] at hs4; have g3 := (keeps_of_below hb4).cell (cell_new wr _ _ wr.heap.size 0 _ rfl rfl); have g4 := (keeps_of_below hb4).cell (cell_new wr _ _ wr.heap.size 1 _ rfl rfl); have g5 := (keeps_of_below hb4).cell (cell_new wr _ _ wr.heap.size 2 _ rfl rfl); have R4 := Lib.hid (HR2.out.keep ((hb4.block rb (by simp; omega)).trans (Below.heap_alloc wr _ rb hrl2))); have q23 := R4.out.2.2.1; have z23 := R4.out.2.2.2 23 (by omega); have HO4 := Lib.hid (own_below (HO2.out.alloc _) hb4); have hr4 : rb < w4.heap.size := (by omega); clear hb4)
                all_goals
                  go_region_law (first
                    | (refine step_append_lies _ rfl (.tmp 130) (.tmp 132) 113 rfl base 111 i0 _ 3 40 Tryz.underlying113 hi hz0 hz1 hz2 rfl (by decide) _ n xs rfl ((HO4.out.drew).alloc _) ⟨_, 0, none⟩ 1 1 [.string key, .int .u64 i2, .nilIface] rfl rfl (by intro j u hj; exact cells_new _ _ _ _ (by simp) j u hj) (by intro u hu; simp at hu; rcases hu with rfl | rfl | rfl; all_goals rfl) (by decide) (by unfold maxLen; omega) (by omega) (by simp; omega) _ rfl ?_; intro x8 cap8 w8 hown8 hgrow8 hat8 hlt8; have q8 : w8.cell? ⟨rb, ro + 23, none⟩ = some (.slice Av n cv) := ((World.cell?_of_block (a := ⟨rb, ro + 23, none⟩) (hgrow8.block rb (by simp; omega) HRU.out)).trans (by simp [go_sem, q23, hr4])); have z8 : w8.frozen? ⟨rb, ro + 23, none⟩ = false := ((World.frozen?_of_block (a := ⟨rb, ro + 23, none⟩) (hgrow8.block rb (by simp; omega) HRU.out)).trans (by simp [go_sem, z23, hr4])); have HO8 := Lib.hid hown8; have HG8 := Lib.hid hgrow8; have HA8 := Lib.hid hat8; clear hown8 hgrow8 hat8 hlt8)
                    | (refine step_append_lies _ rfl (.tmp 130) (.tmp 132) 113 rfl base 111 i0 _ 3 40 Tryz.underlying113 hi hz0 hz1 hz2 rfl (by decide) _ n xs rfl ((HO4.out.drew).alloc _) ⟨_, 0, none⟩ 1 1 [.string key, .int .u64 i2, .iface ty u2] rfl rfl (by intro j u hj; exact cells_new _ _ _ _ (by simp) j u hj) (by intro u hu; simp at hu; rcases hu with rfl | rfl | rfl; all_goals rfl) (by decide) (by unfold maxLen; omega) (by omega) (by simp; omega) _ rfl ?_; intro x8 cap8 w8 hown8 hgrow8 hat8 hlt8; have q8 : w8.cell? ⟨rb, ro + 23, none⟩ = some (.slice Av n cv) := ((World.cell?_of_block (a := ⟨rb, ro + 23, none⟩) (hgrow8.block rb (by simp; omega) HRU.out)).trans (by simp [go_sem, q23, hr4])); have z8 : w8.frozen? ⟨rb, ro + 23, none⟩ = false := ((World.frozen?_of_block (a := ⟨rb, ro + 23, none⟩) (hgrow8.block rb (by simp; omega) HRU.out)).trans (by simp [go_sem, z23, hr4])); have HO8 := Lib.hid hown8; have HG8 := Lib.hid hgrow8; have HA8 := Lib.hid hat8; clear hown8 hgrow8 hat8 hlt8))
                all_goals
                  go_wp2
                all_goals
                  obtain hAt : (Value.slice Av n cv).ownBlock = some x8 ∨ x8 = _ := HA8.out
                  have hx8 : (Value.slice Av n cv).ownBlock = some x8 ∨ w4.heap.size ≤ x8 := hAt.imp id (fun h => by rw [h]; simp)
                  have hG8 : World.grownBy _ w8 (Value.slice Av n cv).ownBlock := HG8.out
                  have hbx : some rb ≠ some x8 := fun e => by
                    injection e with e
                    rcases hx8 with h | h
                    · exact HRU.out (by rw [h, e])
                    · omega
                  have hN8 : NewRow (Value.slice Av n cv) (.slice (some ⟨x8, 0, none⟩) (n + 1) cap8) w4 := hx8.imp (fun h => h.symm) (fun h => ⟨x8, rfl, h⟩)
                  have hT4 : Two rb none w w4 := (HT2.out.alloc _).below HB4.out
                  have hT8 : Two rb none w (w8.setCell ⟨rb, ro + 23, none⟩ (.slice (some ⟨x8, 0, none⟩) (n + 1) cap8)) := ((hT4.drew.alloc _).trans (Two.of_grown hG8) HN2.out).set _ _
                  have hR8 := (R4.out.drew.keep (w' := w8) ((hG8.block rb (by simp [World.drew]; omega) HRU.out).trans (Below.heap_alloc _ _ rb (by simpa [World.drew] using hr4)))).back (.slice (some ⟨x8, 0, none⟩) (n + 1) cap8)
                  refine ⟨⟨j + 1, r, SAttrs.snoc b' key d, .slice (some ⟨x8, 0, none⟩) (n + 1) cap8, n + 1, _, by push_cast; rfl, hjj, by have := Hr.out; rwa [show o + k * 3 + j * 3 + 3 = o + k * 3 + (j + 1) * 3 by omega] at this, hR8, ownsRow_setCell_other HO8.out (fun e => hbx e.symm) _, RSX.snoc HV.out b' xs HX2.out, by rw [slen_snoc, Hnb.out], by rw [HFU.out, full_stay HG.out, ssnoc_append], by rw [slen_snoc]; omega, hbx, hT8, (HN2.out : NewRow (.slice none 0 0) _ w).trans hN8 hT4.size⟩, ?_⟩
                  simp only [intOf]; omega

end Go.Proofs.YtihhgnbgejjijaaGreatDoor.Va

/- Logger.logAttrs and LogAttrs: the walks. -/
namespace Go.Proofs.YtihhgnbgejjijaaGreatDoor.Va
set_option linter.unusedVariables false
set_option linter.unusedSimpArgs false
open Go Go.RowKit

set_option maxRecDepth 100000 in
set_option maxHeartbeats 1000000 in
/-- (*Logger).logAttrs, not enabled. -/
theorem logA_no (lg : Nat) (ctx : Value) (hctx : ctx = .nilIface ∨ ∃ bg, ctx = .iface 9 (.string bg)) (min lvl : Int) (c : Nat) (u : Value) (l : List GEv) (msg : ByteArray) (args : Value) (w : World) (h : EvR c u l w) (hn : l.length < 299998)
    (hl : w.cell? ⟨lg, 0, none⟩ = some (.iface 95 (.agg #[.int .i64 min, .bool false, .pointer (some ⟨c, 0, none⟩)]))) (hle : ¬ min ≤ lvl) :
    Calls Tryz.prog 120 #[.pointer (some ⟨lg, 0, none⟩), ctx, .int .i64 lvl, .string msg, args] w (EvPost c u (l ++ [evAsk min lvl]) (.tuple #[]) w) := by
  obtain ⟨Q, hQ⟩ : ∃ Q : Ending → World → Prop, Q = EvPost c u (l ++ [evAsk min lvl]) (.tuple #[]) w := ⟨_, rfl⟩
  rw [← hQ]
  have HQ := Lib.hid hQ
  have CE := Lib.hid (fun bg => lenabled_ev lg min lvl false bg c u l w h (by omega) hl)
  unfold EvPost at CE
  rw [decide_eq_false hle] at CE
  clear hQ h hn hl
  rcases hctx with rfl | ⟨bg, rfl⟩
  all_goals
    go_enter Tryz.func120, Tryz.ntmps120
    go_wp2_with (go_at_call 88; (with_reducible refine (CE.out _).mono ?_); rintro e w1 ⟨rfl, v1, hE1, hT1, hN1⟩; have H1 := Lib.hid (And.intro hE1 (And.intro hT1 hN1)); clear hE1 hT1 hN1)
    refine bodyPost_ret (v := .tuple #[]) (by simp [results, Tryz.results120, go_sem]) rfl ?_
    rw [HQ.out]
    exact ⟨rfl, v1, H1.out⟩

set_option maxRecDepth 100000 in
set_option maxHeartbeats 2000000 in
/-- (*Logger).logAttrs, enabled. -/
theorem logA_yes {P : Nat → Prop} (lg : Nat) (ctx : Value) (hctx : ctx = .nilIface ∨ ∃ bg, ctx = .iface 9 (.string bg)) (min lvl : Int) (c : Nat) (u : Value) (l : List GEv) (al : SAttrs) (msg : ByteArray) (w : World) (A : Option Addr) (len cap : Nat)
    (h : EvR c u l w) (hn : l.length < 299998) (hl : w.cell? ⟨lg, 0, none⟩ = some (.iface 95 (.agg #[.int .i64 min, .bool false, .pointer (some ⟨c, 0, none⟩)]))) (hlg : lg ≠ c ∧ some lg ≠ u.ownBlock) (hle : min ≤ lvl) (ha : RSS P w al A len) (hlc : len ≤ cap)
    (hlen : al.len ≤ 299999) (hsz : vSizeAll al.full ≤ 700000) (hPr : ∀ b, P b → b < w.heap.size → b ≠ c ∧ some b ≠ u.ownBlock) :
    Calls Tryz.prog 120 #[.pointer (some ⟨lg, 0, none⟩), ctx, .int .i64 lvl, .string msg, .slice A len cap] w (EvPost c u (l ++ [evAsk min lvl, ⟨3, lvl, false, ByteArray.empty, msg, attrsTold al.full⟩]) (.tuple #[]) w) := by
  obtain ⟨Q, hQ⟩ : ∃ Q : Ending → World → Prop, Q = EvPost c u (l ++ [evAsk min lvl, ⟨3, lvl, false, ByteArray.empty, msg, attrsTold al.full⟩]) (.tuple #[]) w := ⟨_, rfl⟩
  rw [← hQ]
  have HQ := Lib.hid hQ
  have CE := Lib.hid (fun bg => lenabled_ev lg min lvl false bg c u l w h (by omega) hl)
  unfold EvPost at CE
  rw [decide_eq_true hle] at CE
  have hlgl : lg < w.heap.size := World.block_lt_of_cell? w _ hl
  have HPr := Lib.hid hPr
  have HA := Lib.hid ha
  have HS := Lib.hid (And.intro hlc (And.intro hlen (And.intro hsz hn)))
  have HLG := Lib.hid (And.intro hl hlg)
  have mh := meth_handle
  clear hQ h hn hl hlg ha hlc hlen hsz hPr
  rcases hctx with rfl | ⟨bg, rfl⟩
  all_goals
    go_enter Tryz.func120, Tryz.ntmps120
    go_wp2_with (first
      | (go_at_call 88; (with_reducible refine (CE.out _).mono ?_); rintro e w1 ⟨rfl, v1, hE1, hT1, hN1⟩; have H1 := Lib.hid (And.intro hE1 (And.intro hT1 hN1)); have hs1 := hT1.size; clear hE1 hT1 hN1)
      | (go_at_call 158; refine (now_any _).mono ?_; rintro e w2 ⟨rfl, hb2⟩; have HB2 := Lib.hid hb2; have hs2 := hb2.size; clear hb2)
      | (go_at_call 62; refine (newRec_any _ _ _ _ _ _ _ _).mono ?_; rintro e w3 ⟨rfl, hb3⟩; have HB3 := Lib.hid hb3; have hs3 := hb3.size; clear hb3; have HTH := Lib.hid (there_new w3 [.int .i64 0, .int .i64 0, .int .i64 0, .string ⟨#[]⟩, .string ⟨#[]⟩, .int .i64 0, .pointer none, .string ⟨#[]⟩, .int .u64 0, .nilIface, .string ⟨#[]⟩, .int .u64 0, .nilIface, .string ⟨#[]⟩, .int .u64 0, .nilIface, .string ⟨#[]⟩, .int .u64 0, .nilIface, .string ⟨#[]⟩, .int .u64 0, .nilIface, .int .i64 0, .slice none 0 0] 115 w3.heap.size 24 rfl rfl); unfold vRec rcNew)
      | (refine wpList_store_mid rfl 115 (.tmp 11) (.tmp 24) rfl w3.heap.size 0 #[.int .i64 (-62135596800), .int .i64 0, .int .i64 0, .string ByteArray.empty, .string msg, .int .i64 lvl, .pointer none, .string ByteArray.empty, .int .u64 0, .nilIface, .string ByteArray.empty, .int .u64 0, .nilIface, .string ByteArray.empty, .int .u64 0, .nilIface, .string ByteArray.empty, .int .u64 0, .nilIface, .string ByteArray.empty, .int .u64 0, .nilIface, .int .i64 0, .slice none 0 0] rfl rfl HTH.out (by kernel_rfl) (by simp [Value.oneCell']) ?_; have hR5 := recu_new w3 lvl msg (.pointer none) (-62135596800) 0 0 ByteArray.empty w3.heap.size rfl 115 [.int .i64 0, .int .i64 0, .int .i64 0, .string ⟨#[]⟩, .string ⟨#[]⟩, .int .i64 0, .pointer none, .string ⟨#[]⟩, .int .u64 0, .nilIface, .string ⟨#[]⟩, .int .u64 0, .nilIface, .string ⟨#[]⟩, .int .u64 0, .nilIface, .string ⟨#[]⟩, .int .u64 0, .nilIface, .string ⟨#[]⟩, .int .u64 0, .nilIface, .int .i64 0, .slice none 0 0] rfl; have hB5 : Below w3.heap.size w3 ((w3.alloc (.cells [.int .i64 0, .int .i64 0, .int .i64 0, .string ⟨#[]⟩, .string ⟨#[]⟩, .int .i64 0, .pointer none, .string ⟨#[]⟩, .int .u64 0, .nilIface, .string ⟨#[]⟩, .int .u64 0, .nilIface, .string ⟨#[]⟩, .int .u64 0, .nilIface, .string ⟨#[]⟩, .int .u64 0, .nilIface, .string ⟨#[]⟩, .int .u64 0, .nilIface, .int .i64 0, .slice none 0 0].toArray 115)).setCells w3.heap.size 0 [.int .i64 (-62135596800), .int .i64 0, .int .i64 0, .string ByteArray.empty, .string msg, .int .i64 lvl, .pointer none, .string ByteArray.empty, .int .u64 0, .nilIface, .string ByteArray.empty, .int .u64 0, .nilIface, .string ByteArray.empty, .int .u64 0, .nilIface, .string ByteArray.empty, .int .u64 0, .nilIface, .string ByteArray.empty, .int .u64 0, .nilIface, .int .i64 0, .slice none 0 0]) := below_cells (Nat.le_refl _) _ _ _ ((Below.refl _ _).alloc (Nat.le_refl _) _); (try simp only [List.toList_toArray]); generalize (w3.alloc (.cells [.int .i64 0, .int .i64 0, .int .i64 0, .string ⟨#[]⟩, .string ⟨#[]⟩, .int .i64 0, .pointer none, .string ⟨#[]⟩, .int .u64 0, .nilIface, .string ⟨#[]⟩, .int .u64 0, .nilIface, .string ⟨#[]⟩, .int .u64 0, .nilIface, .string ⟨#[]⟩, .int .u64 0, .nilIface, .string ⟨#[]⟩, .int .u64 0, .nilIface, .int .i64 0, .slice none 0 0].toArray 115)).setCells w3.heap.size 0 [.int .i64 (-62135596800), .int .i64 0, .int .i64 0, .string ByteArray.empty, .string msg, .int .i64 lvl, .pointer none, .string ByteArray.empty, .int .u64 0, .nilIface, .string ByteArray.empty, .int .u64 0, .nilIface, .string ByteArray.empty, .int .u64 0, .nilIface, .string ByteArray.empty, .int .u64 0, .nilIface, .string ByteArray.empty, .int .u64 0, .nilIface, .int .i64 0, .slice none 0 0] = w5 at hR5 hB5 ⊢; have HR5 := Lib.hid hR5; have HB5 := Lib.hid hB5; have hs5 := hR5.lt; clear hR5 hB5 HTH)
      | (go_at_call 66; have hA5 := ((HA.out.turn (Q := fun b => P b ∧ b < w.heap.size) (KeepsOn.refl _ _) (fun b h hl => ⟨h, hl⟩)).turn (Q := fun b => P b ∧ b < w.heap.size) ((H1.out.2.1.keepsOn (fun b hb => (HPr.out b hb.1 hb.2).1) (fun b hb => (HPr.out b hb.1 hb.2).2)).trans (((keeps_of_below HB2.out).trans ((keeps_of_below HB3.out).trans (keeps_of_below HB5.out))).on _)) (fun b h _ => h)); (refine (addAttrs_any (P := fun b => P b ∧ b < w.heap.size) (w3.heap.size + 1) w3.heap.size 0 _ al w5 A len cap HR5.out hA5 HS.out.1 HS.out.2.1 (fun b hb => ⟨by omega, by omega⟩) (by omega)).mono ?_); clear hA5; rintro e w6 ⟨rfl, rc', f4, b4, v4, m4, ys4, hR6, hrc6, hf6, hfl6, hown6, hx6, hru6, hall6, hT6, hN6⟩; have hk6 : KeepsOn (fun b => P b ∧ b < w.heap.size) w5 w6 := hT6.keepsOn (fun b hb => by omega) (fun b hb e => by cases e); obtain ⟨A4, cap4, rfl, hrs6⟩ := rss_of_owns (Q := fun _ => True) hown6 (RSX.turn hk6 (fun _ h _ => h) b4 ys4 hx6) (fun _ _ => trivial) (fun _ _ => trivial); have HR6 := Lib.hid hR6; have HRC := Lib.hid hrc6; have HF6 := Lib.hid (And.intro (FrP.turn (Q := fun _ => True) hk6 (fun _ _ _ => trivial) f4 rc' 7 hf6) (And.intro hfl6 hrs6)); have hB6 : Below w1.heap.size w1 w6 := Two.under ((HB2.out.trans (HB3.out.mono hs2)).trans (HB5.out.mono (by omega))) (Nat.le_refl _) hT6 (by omega) (fun g hg => by cases hg); have HB6 := Lib.hid hB6; have hs6 := hB6.size; have HALL := Lib.hid hall6; have hz6 := hT6.size; clear hR6 hrc6 hf6 hfl6 hown6 hx6 hru6 hall6 hT6 hN6 hrs6 hB6 hk6))
    have hl6 : w6.drew.cell? ⟨lg, 0, none⟩ = some (.iface 95 (.agg #[.int .i64 min, .bool false, .pointer (some ⟨c, 0, none⟩)])) := (keeps_of_below HB6.out).cell ((H1.out.2.1.cell hlgl HLG.out.2.1 HLG.out.2.2).trans HLG.out.1)
    have KR := Lib.hid HR6.out.range
    refine wp_region_held_drew (S := fun w' => KeepsOn (fun b => b = w3.heap.size) w6 w') (by kernel_rfl) ((KeepsOn.refl _ _).drew) (fun hH => ?_)
    refine wpAnyH_take (i := 0) (oi := ({ dst := some 27, op := Op.move (Operand.tmp 0), type := 91, pos := "logger.go:162", after := #[], guard := none } : Oper)) (v := .pointer (some ⟨lg, 0, none⟩)) rfl (by kernel_rfl) (by kernel_rfl) (by kernel_rfl) (fun _ _ _ h => h) (Or.inl ⟨by rfl, fun w' hS => by clear hl6 mh; go_simp⟩) hH ?_
    try simp only [Act.put, List.setIfInBounds_toArray, List.set_cons_zero, List.set_cons_succ]
    refine wpAnyH_take (i := 2) (oi := ({ dst := some 29, op := Op.move (Operand.tmp 1), type := 20, pos := "logger.go:162", after := #[], guard := none } : Oper)) (v := .iface 9 (.string _)) rfl (by kernel_rfl) (by kernel_rfl) (by kernel_rfl) (fun _ _ _ h => h) (Or.inl ⟨by rfl, fun w' hS => rfl⟩) hH ?_
    try simp only [Act.put, List.setIfInBounds_toArray, List.set_cons_zero, List.set_cons_succ]
    refine wpAnyH_take (i := 3) (oi := ({ dst := some 30, op := Op.load 115 (Operand.tmp 11), type := 115, pos := "logger.go:162", after := #[], guard := none } : Oper)) rfl (by kernel_rfl) (by kernel_rfl) (by kernel_rfl) (fun _ _ _ h => h) (yieldsIf_load_mid (by rfl) 115 (.tmp 11) rfl w3.heap.size 0 rfl [rc' 0, rc' 1, rc' 2, rc' 3, rc' 4, rc' 5, rc' 6, rc' 7, rc' 8, rc' 9, rc' 10, rc' 11, rc' 12, rc' 13, rc' 14, rc' 15, rc' 16, rc' 17, rc' 18, rc' 19, rc' 20, rc' 21, .int .i64 f4.len, .slice A4 m4 cap4] _ (fun w' hS => fun j v hv => KeepsOn.cell hS rfl (KR.out j v hv)) Tryz.underlying115 rfl (by kernel_rfl)) hH ?_
    try simp only [Act.put, List.setIfInBounds_toArray, List.set_cons_zero, List.set_cons_succ]
    clear hH
    refine wpAnyH_ready (rs := [1]) (by kernel_rfl) (by simp) ?_
    refine AllReadyH.cons (o := ({ dst := some 28, op := Op.call { callee := Callee.value (Operand.func 121), args := #[Operand.tmp 27], argTypes := #[91] }, type := 135, pos := "logger.go:162", after := #[{ on := 0, ground := Ground.data }], guard := none } : Oper)) rfl (fun K hK => ?_) AllReadyH.nil
    go_simp
    refine (handler_any lg _ _ hl6).mono ?_
    rintro e w7 ⟨rfl, hb7⟩
    have HB7 := Lib.hid hb7
    clear hb7 hl6
    dsimp only
    refine hK.out _ _ ?_ (fun hHeld => ?_)
    · exact ((KeepsOn.refl _ _).drew).trans ((keeps_of_below HB7.out).on _)
    clear hK K hHeld
    try simp only [Act.put, List.setIfInBounds_toArray, List.set_cons_zero, List.set_cons_succ]
    have hB7 : Below w1.heap.size w1 w7 := HB6.out.drew.trans (HB7.out.mono (show w1.heap.size ≤ w6.drew.heap.size from hs6))
    have CH := Lib.hid (fun ctx => handle_any (P := fun _ => True) min lvl ctx c v1 (l ++ [evAsk min lvl]) f4 b4 rc' A4 m4 cap4 msg w7 (H1.out.1.below hB7) (by rw [List.length_append]; have := HS.out.2.2.2; simp; omega) (HRC.out 4 (by omega)) (HRC.out 5 (by omega)) (FrP.turn (((KeepsOn.refl _ _).drew).trans ((keeps_of_below HB7.out).on _)) (fun _ h _ => h) f4 rc' 7 HF6.out.1) HF6.out.2.1 (HF6.out.2.2.turn (((KeepsOn.refl _ _).drew).trans ((keeps_of_below HB7.out).on _)) (fun _ h _ => h)) (by rw [HALL.out]; exact HS.out.2.2.1) (by have h1 := congrArg SAttrs.len HALL.out; have h2 := slen_append f4 b4; have h3 := full_len al; have h6 := HS.out.2.1; omega))
    unfold vRec EvPost at CH
    have HB77 := Lib.hid hB7
    clear hB7
    refine wpAnyH_ready (rs := [4]) (by kernel_rfl) (by simp) ?_
    refine AllReadyH.cons (o := ({ dst := some 31, op := Op.call { callee := Callee.invoke (Operand.tmp 28) "Handle", args := #[Operand.tmp 29, Operand.tmp 30], argTypes := #[20, 115] }, type := 139, pos := "logger.go:162", after := #[{ on := 1, ground := Ground.data }, { on := 2, ground := Ground.data }, { on := 3, ground := Ground.data }, { on := 1, ground := Ground.chain }], guard := none } : Oper)) rfl (fun K hK => ?_) AllReadyH.nil
    go_simp
    refine (CH.out _).mono ?_
    rintro e w8 ⟨rfl, v8, hE8, hT8, hN8⟩
    have H8 := Lib.hid (And.intro hE8 (And.intro hT8 hN8))
    clear hE8 hT8 hN8 CH
    dsimp only
    refine hK.out _ _ ?_ (fun hHeld => ?_)
    · exact ((KeepsOn.refl _ _).drew).trans (((keeps_of_below HB7.out).on _).trans (H8.out.2.1.keepsOn (fun b hb => by have := H1.out.1.lt; omega) (fun b hb e => by have := H1.out.1.own b e.symm; omega)))
    clear hK K hHeld
    try simp only [Act.put, List.setIfInBounds_toArray, List.set_cons_zero, List.set_cons_succ]
    refine wpAnyH_done (by kernel_rfl) ?_ _
    go_wp2
    refine bodyPost_end (v := .tuple #[]) (by simp [results, Tryz.results120, go_sem]) rfl ?_
    rw [HQ.out]
    have hE := H8.out.1
    rw [List.append_assoc, show attrsTold (SAttrs.append f4 b4) = attrsTold al.full by rw [HALL.out]] at hE
    exact ⟨rfl, v8, hE, (H1.out.2.1.below HB77.out).trans H8.out.2.1 H1.out.2.2, H1.out.2.2.trans H8.out.2.2 (by have := HB77.out.size; omega)⟩

set_option maxRecDepth 100000 in
set_option maxHeartbeats 400000 in
/-- (*Logger).LogAttrs is logAttrs. -/
theorem LogA_any (lg ctx lvl msg args : Value) (w : World) (Q : Ending → World → Prop) (h : Calls Tryz.prog 120 #[lg, ctx, lvl, msg, args] w (fun e w' => e = .returned (.tuple #[]) ∧ Q e w')) :
    Calls Tryz.prog 83 #[lg, ctx, lvl, msg, args] w Q := by
  have H := Lib.hid h
  clear h
  go_enter Tryz.func83, Tryz.ntmps83
  go_wp2_with (go_at_call 120; (with_reducible refine H.out.mono ?_); rintro e w1 ⟨rfl, h1⟩; have H1 := Lib.hid h1; clear h1)
  exact bodyPost_end (v := .tuple #[]) (by simp [results, Tryz.results83, go_sem]) rfl H1.out

end Go.Proofs.YtihhgnbgejjijaaGreatDoor.Va
