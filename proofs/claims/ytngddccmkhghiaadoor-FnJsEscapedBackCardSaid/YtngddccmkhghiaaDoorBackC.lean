/- The reader of JSON reads what stands for a text between quotation marks as the text, coerced to UTF-8: the walks. -/
import Derived.Test.YtngddccmkhghiaaDoorEscB
import Derived.Test.YtngddccmkhghiaaDoorBackB
import Derived.Deep.RegionHeld3
namespace Go.Proofs.YtngddccmkhghiaaDoor.Esc
set_option linter.unusedVariables false
set_option linter.unusedSimpArgs false
open Go Go.Lib Go.RowKit

theorem tabs_but {w w' : World} {g : Nat} (h : Lib.Utf8Tabs 0 1 w) (hg : 1 < g) (hb : But g w w') : Lib.Utf8Tabs 0 1 w' := by
  have h0 : 0 < w.heap.size := World.block_lt_of_cell? w _ (h.1 0 (by decide))
  have h1 : 1 < w.heap.size := World.block_lt_of_cell? w _ (h.2 0 (by decide)).1
  exact ⟨fun c hc => (hb.cell h0 (by omega)).trans (h.1 c hc), fun i hi => ⟨(hb.cell h1 (by omega)).trans (h.2 i hi).1, (hb.cell h1 (by omega)).trans (h.2 i hi).2⟩⟩

theorem tabs_rd {W w : World} {g : Nat} {T : ByteArray} {k : Nat} (hT : Lib.Utf8Tabs 0 1 W) (hg : 1 < g) (h : Rdr W w g T k) : Lib.Utf8Tabs 0 1 w :=
  tabs_but hT hg h.2.2.2.2.2

def TextPost (W : World) (g : Nat) (T : ByteArray) (k : Nat) (l : List UInt8) (e : Ending) (w' : World) : Prop := (∃ s : ByteArray, e = .returned (.string s) ∧ s.data.toList = co l) ∧ Rdr W w' g T (k + 1 + (esc l).length + 1)

/-- One round: what has come out, and what is still to be read. -/
def Rnd3 (W : World) (g : Nat) (T : ByteArray) (l t : List UInt8) (fin n : Nat) (out : Value) (wr : World) : Prop :=
  ∃ (m : Nat) (r : List UInt8) (o : ByteArray), out = .string o ∧ o.data.toList ++ co r = co l ∧ T.data.toList.drop m = esc r ++ 34 :: t ∧ r.length ≤ n ∧ m ≤ T.size ∧ Rdr W wr g T m ∧ o.size ≤ 4 * m ∧ m + (esc r).length = fin

theorem Rdr.flat {W w : World} {g : Nat} {T : ByteArray} {k : Nat} (h : Rdr W w g T k) : w.cell? ⟨g, 0, none⟩ = some (.string T) ∧ w.cell? ⟨g, 1, none⟩ = some (.int .i64 k) ∧ w.cell? ⟨g, 2, none⟩ = some (.bool true) ∧
  (∀ o, w.frozen? ⟨g, o, none⟩ = false) ∧ g < w.heap.size := ⟨h.1, h.2.1, h.2.2.1, h.2.2.2.1, h.2.2.2.2.1⟩

theorem drop_size {T : ByteArray} {m : Nat} {a b : List UInt8} (hm : m ≤ T.size) (h : T.data.toList.drop m = a ++ b) : T.size = m + a.length + b.length ∧ T.data.toList.drop (m + a.length) = b := by
  have h1 := congrArg List.length h
  rw [List.length_drop, ← size_eq, List.length_append] at h1
  refine ⟨by omega, ?_⟩
  rw [← List.drop_drop, h, List.drop_left]

theorem enc_size {s : ByteArray} {c : Int} (h : s.data.toList = encodeRune c) : s.size ≤ 4 := by
  rw [size_eq, h]
  unfold encodeRune
  rw [List.length_map]
  exact (encodeRuneZ_length c).2

set_option maxRecDepth 100000 in
set_option maxHeartbeats 1000000 in
theorem text_rd (W w : World) (g : Nat) (T : ByteArray) (k : Nat) (l t : List UInt8) (hT : Lib.Utf8Tabs 0 1 W) (hg : 1 < g) (hD : T.data.toList.drop k = 34 :: (esc l ++ 34 :: t)) (hR : Rdr W w g T k) (hs : T.size ≤ 1000000000) :
    Calls Tryd.prog 23 #[.pointer (some ⟨g, 0, none⟩)] w (TextPost W g T k l) := by
  have hk : k < T.size := by
    rcases Nat.lt_or_ge k T.size with h | h
    · exact h
    · rw [List.drop_of_length_le (by rw [← size_eq]; omega)] at hD; cases hD
  have hD1 := drop_size (a := [34]) (by omega) hD
  simp only [List.length_cons, List.length_nil, Nat.zero_add] at hD1
  have HD1 := Lib.hid hD1
  have HR := Lib.hid hR
  have HT := Lib.hid hT
  obtain ⟨c0, c1, c2, cf, cg⟩ := hR.flat
  obtain ⟨Q, hQ⟩ : ∃ Q, Q = TextPost W g T k l := ⟨_, rfl⟩
  rw [← hQ]
  have HQ := Lib.hid hQ
  clear hD hD1 hR hT hQ
  go_enter Tryd.func23, Tryd.ntmps23
  go_wp2
  go_loopg [3] l.length (fun n out wr => Rnd3 W g T l t (k + 1 + (esc l).length) n out wr)
  case atStart => exact ⟨k + 1, l, ByteArray.empty, rfl, rfl, HD1.out.2, Nat.le_refl _, by omega, HR.out.step _ _ (by simp), by simp, rfl⟩
  case round =>
    obtain ⟨m, r, o, rfl, ho, hd, hrn, hm, hr, hos, hfin⟩ := hrel
    have Hfin := Lib.hid hfin
    clear hfin
    clear c0 c1 c2 cf cg HR HD1
    obtain ⟨c0, c1, c2, cf, cg⟩ := hr.flat
    have HR := Lib.hid hr
    by_cases hne : r = []
    · subst hne
      have hd' : T.data.toList.drop m = [34] ++ t := hd
      have hsz := drop_size hm hd'
      simp only [List.length_cons, List.length_nil, Nat.zero_add] at hsz
      have hdec : Lib.decodeGo (T.extract m T.size) = (34, 1) := by
        rw [decode_rest T m (by omega), ← decodeL_drop, hd']
        exact decodeL_ascii 34 t (by decide)
      have Ho := Lib.hid ho
      have hlt : (m : Int) < (T.size : Int) := by omega
      have hle : (m : Int) ≤ (T.size : Int) := by omega
      clear hd hd' hsz ho hr hrn
      go_wp2
      go_region_held3 (fun w' => w'.cell? ⟨g, 0, none⟩ = some (.string T) ∧ w'.cell? ⟨g, 1, none⟩ = some (.int .i64 m)) (go_keep) (first
        | (go_at_call 15; refine (Tryd.utf8_DecodeRuneInString _ _ (tabs_rd HT.out hg HR.out.drew)).mono ?_; rintro e w1 ⟨rfl, hb1⟩; have HR1 := Lib.hid (HR.out.drew.keep hb1); obtain ⟨d0, d1, d2, df, dg⟩ := HR1.out.flat))
      go_wp2
      have hq := HQ.out
      subst hq
      refine ⟨⟨o, rfl, ?_⟩, HR1.out.step _ _ ?_⟩
      · have h := Ho.out
        rwa [co_nil, List.append_nil] at h
      · have h := Hfin.out
        rw [esc_nil, List.length_nil] at h
        omega
    · have hcs := piece_cases r hne
      have hst := esc_step r hne
      have hco := co_step r hne
      have hw := decodeL_width r
      have hle' := decodeL_le r hne
      rw [hst] at hd
      have Hco := Lib.hid hco
      have Hst := Lib.hid hst
      have Ho := Lib.hid ho
      have hrl : 0 < r.length := List.length_pos_iff.2 hne
      have hrd : (r.drop (decodeL r).2).length < gk := by rw [List.length_drop]; omega
      have Hrd := Lib.hid hrd
      clear ho hst hco hrd hw hle' hrn hrl
      rcases hcs with ⟨q, hp, htold⟩ | ⟨⟨hp1, hp2, c', hc1, hc2, hc3, hc4, hdecp⟩, hpe⟩
      · rw [hp] at hd
        have hd' : T.data.toList.drop m = [92] ++ (q ++ (esc (r.drop (decodeL r).2) ++ 34 :: t)) := by rw [hd]; simp
        have hsz := drop_size hm hd'
        simp only [List.length_cons, List.length_nil, Nat.zero_add] at hsz
        have hsz2 := drop_size (by omega) hsz.2
        have hdec : Lib.decodeGo (T.extract m T.size) = (92, 1) := by
          rw [decode_rest T m (by omega), ← decodeL_drop, hd']
          exact decodeL_ascii 92 _ (by decide)
        have Hsz := Lib.hid hsz
        have Hsz2 := Lib.hid hsz2
        have Ht := Lib.hid htold
        have Hp := Lib.hid hp
        have hlt : (m : Int) < (T.size : Int) := by omega
        have hle : (m : Int) ≤ (T.size : Int) := by omega
        clear hd hd' hp hsz hsz2 htold hr
        go_wp2
        go_region_held3 (fun w' => w'.cell? ⟨g, 0, none⟩ = some (.string T) ∧ w'.cell? ⟨g, 1, none⟩ = some (.int .i64 m)) (go_keep) (first
          | (go_at_call 15; refine (Tryd.utf8_DecodeRuneInString _ _ (tabs_rd HT.out hg HR.out.drew)).mono ?_; rintro e w1 ⟨rfl, hb1⟩; have HR1 := Lib.hid (HR.out.drew.keep hb1); obtain ⟨d0, d1, d2, df, dg⟩ := HR1.out.flat))
        go_wp2_with (go_at_call 28; refine (escape_rd W _ g T (m + 1) (decodeL r).1 q _ Ht.out Hsz.out.2 (HR1.out.step _ _ (by simp)) hs).mono ?_; rintro e w2 ⟨⟨s2, rfl, hs2⟩, hr2⟩; have HR2 := Lib.hid hr2; have Hs2 := Lib.hid hs2; have hs2l := enc_size hs2; clear hr2 hs2)
        go_roundg (r.drop (decodeL r).2).length
        case measure => exact Hrd.out
        case rel =>
          refine ⟨m + 1 + q.length, r.drop (decodeL r).2, o ++ s2, rfl, ?_, ?_, Nat.le_refl _, ?_, HR2.out, ?_, ?_⟩
          · have h1 := Ho.out
            rw [Hco.out] at h1
            rw [ByteArray.toList_data_append, Hs2.out, List.append_assoc]
            exact h1
          · exact Hsz2.out.2
          · have := Hsz2.out.1; omega
          · rw [ByteArray.size_append]; omega
          · have h1 := Hfin.out
            have h2 := Hst.out
            rw [h2, List.length_append, Hp.out, List.length_cons] at h1
            omega
      · have hd' : T.data.toList.drop m = piece (decodeL r).1 (r.take (decodeL r).2) ++ (esc (r.drop (decodeL r).2) ++ 34 :: t) := by rw [hd]; simp
        obtain ⟨p, hpp⟩ : ∃ p, p = piece (decodeL r).1 (r.take (decodeL r).2) := ⟨_, rfl⟩
        rw [← hpp] at hd' hp1 hp2 hc4 hdecp hpe
        have Hp := Lib.hid hpp
        have Hpe := Lib.hid hpe
        have hsz := drop_size hm hd'
        have hdec : Lib.decodeGo (T.extract m T.size) = (c', p.length) := by
          rw [decode_rest T m (by omega), ← decodeL_drop, hd']
          exact hdecp _
        have hx : (T.extract m (m + p.length)).data.toList = p := by
          rw [extract_data, hd', show m + p.length - m = p.length by omega, List.take_left]
        have hxs : (T.extract m (m + p.length)).size = p.length := by rw [size_eq, hx]
        have Hsz := Lib.hid hsz
        have Hx := Lib.hid hx
        have hxs' : (T.extract m (m + p.length)).size ≤ 4 := by omega
        obtain ⟨n, hn⟩ : ∃ n, n = p.length := ⟨_, rfl⟩
        rw [← hn] at hdec hp1 hp2 hc4 hxs'
        have Hn := Lib.hid hn
        have hlt : (m : Int) < (T.size : Int) := by omega
        have hle : (m : Int) ≤ (T.size : Int) := by omega
        have hmn : m + n ≤ T.size := by omega
        have q1 : ((n : Int) == 0) = false := by rw [beq_eq_false_iff_ne]; omega
        have q2 : decide ((c' : Int) < 32) = false := decide_eq_false (by omega)
        have q3 : ((c' : Int) == 34) = false := by rw [beq_eq_false_iff_ne]; omega
        have q4 : ((c' : Int) == 92) = false := by rw [beq_eq_false_iff_ne]; omega
        have q4' : ((c' : Int) != 92) = true := by rw [bne_iff_ne]; omega
        have q5 : (c' : Int) = 65533 → ((n : Int) == 1) = false := fun h => by rw [beq_eq_false_iff_ne]; omega
        have q7 : (c' : Int) ≠ 65533 → ((c' : Int) == 65533) = false := fun h => by rw [beq_eq_false_iff_ne]; omega
        clear hd hd' hsz hpp hpe hdecp hx hxs hr hn hc4
        by_cases h5 : (c' : Int) = 65533
        all_goals
          (first | have q6 := q5 h5 | have q6 := q7 h5)
          clear q5 q7
          go_wp2
          go_region_held3 (fun w' => w'.cell? ⟨g, 0, none⟩ = some (.string T) ∧ w'.cell? ⟨g, 1, none⟩ = some (.int .i64 m)) (go_keep) (first
            | (go_at_call 15; refine (Tryd.utf8_DecodeRuneInString _ _ (tabs_rd HT.out hg HR.out.drew)).mono ?_; rintro e w1 ⟨rfl, hb1⟩; have HR1 := Lib.hid (HR.out.drew.keep hb1); obtain ⟨d0, d1, d2, df, dg⟩ := HR1.out.flat))
          go_wp2
          go_quiet (fail)
          go_wp2
          go_roundg (r.drop (decodeL r).2).length
          case measure => exact Hrd.out
          case rel =>
            refine ⟨m + n, r.drop (decodeL r).2, o ++ T.extract m (m + n), rfl, ?_, ?_, Nat.le_refl _, hmn, (HR1.out.drewN _).step _ _ (by simp), ?_, ?_⟩
            · have h1 := Ho.out
              rw [Hco.out] at h1
              rw [ByteArray.toList_data_append, Hn.out, Hx.out, Hpe.out, List.append_assoc]
              exact h1
            · rw [Hn.out]; exact Hsz.out.2
            · rw [ByteArray.size_append]; omega
            · have h1 := Hfin.out
              have h2 := Hst.out
              rw [h2, List.length_append, ← Hp.out, ← Hn.out] at h1
              omega

end Go.Proofs.YtngddccmkhghiaaDoor.Esc
