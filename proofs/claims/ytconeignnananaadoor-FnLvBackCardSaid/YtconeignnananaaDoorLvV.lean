/- What a level's methods say of it, in letters of any case, is read again as this level: plain laws and the walk of FnLvBack. -/
import Derived.Test.YtconeignnananaaDoorLvT
namespace Go.Proofs.YtconeignnananaaDoor.Lv
set_option linter.unusedVariables false
set_option linter.unusedSimpArgs false
open Go Go.Lib Go.RowKit

theorem up_fix {c d : UInt8} (h : upA c = d) (hd : isLetter d = false) : c = d := by
  unfold upA at h
  split at h
  · rename_i hc
    exfalso
    have h2 := congrArg UInt8.toNat h
    rw [UInt8.toNat_ofNat'] at h2
    unfold isLetter at hd
    simp only [Bool.or_eq_false_iff, Bool.and_eq_false_iff, decide_eq_false_iff_not] at hd
    omega
  · exact h

theorem up_fixes : ∀ (l m : List UInt8), l.map upA = m → (∀ d ∈ m, isLetter d = false) → l = m
  | [], m, h, _ => by simpa using h
  | c :: l, [], h, _ => by simp at h
  | c :: l, d :: m, h, hd => by
    simp only [List.map_cons, List.cons.injEq] at h
    rw [up_fix h.1 (hd d (List.mem_cons_self ..)), up_fixes l m h.2 (fun x hx => hd x (List.mem_cons_of_mem _ hx))]

theorem off_noLetter (v : Int) : ∀ d ∈ offText v, isLetter d = false := fun d hd => by
  have h : d.toNat = 43 ∨ d.toNat = 45 ∨ 48 ≤ d.toNat ∧ d.toNat ≤ 57 := by
    rcases off_mem v d hd with h | h
    · unfold isSign at h
      simp only [Bool.or_eq_true, beq_iff_eq] at h
      omega
    · omega
  unfold isLetter
  simp only [Bool.or_eq_false_iff, Bool.and_eq_false_iff, decide_eq_false_iff_not]
  omega

theorem up_caps (l : List UInt8) (h : ∀ b ∈ l, 65 ≤ b.toNat ∧ b.toNat ≤ 90) : l.map upA = l := by
  induction l with
  | nil => rfl
  | cons b l ih =>
    have hb := h b (List.mem_cons_self ..)
    rw [List.map_cons, ih (fun c hc => h c (List.mem_cons_of_mem _ hc))]
    congr 1
    unfold upA
    rw [if_neg (by omega)]
theorem up_off (v : Int) : (offText v).map upA = offText v := by
  have h : ∀ l : List UInt8, (∀ d ∈ l, isLetter d = false) → l.map upA = l := by
    intro l
    induction l with
    | nil => intro _; rfl
    | cons b l ih =>
      intro hd
      rw [List.map_cons, ih (fun c hc => hd c (List.mem_cons_of_mem _ hc))]
      congr 1
      have := hd b (List.mem_cons_self ..)
      unfold isLetter at this
      simp only [Bool.or_eq_false_iff, Bool.and_eq_false_iff, decide_eq_false_iff_not] at this
      unfold upA
      rw [if_neg (by omega)]
  exact h _ (off_noLetter v)

theorem strB_parts (base : ByteArray) (v : Int) : (v = 0 ∧ (strB base v).data.toList = base.data.toList) ∨ (strB base v).data.toList = base.data.toList ++ offText v := by
  by_cases h0 : v = 0
  · subst h0; left; rw [strB_zero]; exact ⟨rfl, rfl⟩
  · right
    by_cases h1 : 0 < v
    · rw [strB_pos base h1]
      unfold offText
      rw [if_pos (by omega), ByteArray.toList_data_append, ByteArray.toList_data_append, toList_itoaB]
      rfl
    · rw [strB_neg base (by omega)]
      unfold offText
      rw [if_neg (by omega), ByteArray.toList_data_append, toList_itoaB]

/-- A level's name in parts. -/
theorem name_parts (n : Int) (h0 : -9223372036854775808 ≤ n) (h1 : n ≤ 9223372036854775807) : ∃ (N : List UInt8) (b v : Int), baseUp N = some b ∧ b + v = n ∧ -9223372036854775808 ≤ v ∧ v ≤ 9223372036854775807 ∧
    ((v = 0 ∧ (lvName n).data.toList = N) ∨ (lvName n).data.toList = N ++ offText v) := by
  unfold lvName
  split
  · exact ⟨[68, 69, 66, 85, 71], -4, n + 4, rfl, by omega, by omega, by omega, strB_parts ⟨#[68, 69, 66, 85, 71]⟩ (n + 4)⟩
  · split
    · exact ⟨[73, 78, 70, 79], 0, n, rfl, by omega, by omega, by omega, strB_parts ⟨#[73, 78, 70, 79]⟩ n⟩
    · split
      · exact ⟨[87, 65, 82, 78], 4, n - 4, rfl, by omega, by omega, by omega, strB_parts ⟨#[87, 65, 82, 78]⟩ (n - 4)⟩
      · exact ⟨[69, 82, 82, 79, 82], 8, n - 8, rfl, by omega, by omega, by omega, strB_parts ⟨#[69, 82, 82, 79, 82]⟩ (n - 8)⟩

/-- A level's name in letters of any case. -/
theorem cased_level (t : List UInt8) (n : Int) (h0 : -9223372036854775808 ≤ n) (h1 : n ≤ 9223372036854775807) (ht : t.map upA = (lvName n).data.toList.map upA) : levelOf t = some n ∧ ∀ c ∈ t, isSimple c = true := by
  obtain ⟨N, b, v, hb, hn, hv0, hv1, hp⟩ := name_parts n h0 h1
  have hN : N.map upA = N := up_caps N (baseUp_letters hb)
  rcases hp with ⟨rfl, hl⟩ | hl
  · rw [hl, hN] at ht
    have hb' : baseUp (t.map upA) = some b := by rw [ht]; exact hb
    refine ⟨?_, letter_simple hb'⟩
    rw [level_name t b hb']
    congr 1
    omega
  · rw [hl, List.map_append, hN, up_off] at ht
    obtain ⟨l1, l2, rfl, e1, e2⟩ := List.map_eq_append_iff.1 ht
    obtain rfl := up_fixes l2 _ e2 (off_noLetter v)
    have hb' : baseUp (l1.map upA) = some b := by rw [e1]; exact hb
    refine ⟨?_, fun c hc => ?_⟩
    · rw [level_off l1 b v hb' hv0 hv1]
      congr 1
      rw [hn]
      simp only [IntKind.wrap_i64]
      omega
    · rcases List.mem_append.1 hc with hc | hc
      · exact letter_simple hb' c hc
      · exact off_simple v c hc

theorem cased_marks (u t : List UInt8) (h : u.map upA = (34 :: (t ++ [34])).map upA) : ∃ m : List UInt8, u = 34 :: (m ++ [34]) ∧ m.map upA = t.map upA := by
  rw [List.map_cons, List.map_append] at h
  obtain ⟨c, r, rfl, hc, hr⟩ := List.map_eq_cons_iff.1 h
  obtain ⟨m, k, rfl, hm, hk⟩ := List.map_eq_append_iff.1 hr
  have h34 : upA 34 = 34 := by decide
  rw [h34] at hc
  obtain rfl := up_fix hc (by decide)
  have hk' : k = [34] := up_fixes k [34] (by rw [hk]; simp [h34]) (by decide)
  subst hk'
  exact ⟨m, rfl, hm⟩

set_option maxRecDepth 100000 in
set_option maxHeartbeats 1000000 in
theorem back_any (n was f : Int) (w : World) (h0 : -9223372036854775808 ≤ n) (h1 : n ≤ 9223372036854775807) (hf : 0 ≤ f ∧ f ≤ 18446744073709551615) (hE : Env w) (hP : Pow w) :
    Calls Tryd.prog 5 #[.int .i64 n, .int .i64 was, .int .u64 f] w fun e w' => e = .returned (.bool true) ∧ Below w.heap.size w w' := by
  have hz := lvName_size n h0 h1
  have hqz : (quoB (lvName n)).size = (lvName n).size + 2 := by rw [size_eq, quoB_list, size_eq]; simp
  have hT : ∀ t : List UInt8, t.map upA = (lvName n).data.toList.map upA → ∀ w, Env w → Calls Tryd.prog 11 #[.string ⟨t.toArray⟩, .int .i64 was] w fun e w' => e = .returned (.tuple #[.int .i64 n, .bool true]) ∧ Below w.heap.size w w' := fun t ht w hE => by
    obtain ⟨hl, hs⟩ := cased_level t n h0 h1 ht
    have hlen : t.length = (lvName n).size := by have := congrArg List.length ht; rw [size_eq]; simpa using this
    have h := levelParse_any ⟨t.toArray⟩ was (by rw [size_eq]; show t.length ≤ _; omega) (fun c hc => (simpleU (hs c hc)).1) w hE
    unfold ParsedPost at h
    rw [show (⟨t.toArray⟩ : ByteArray).data.toList = t from rfl, hl] at h
    exact h
  have hJ : ∀ u : List UInt8, u.map upA = (quoB (lvName n)).data.toList.map upA → ∀ w, Env w → Calls Tryd.prog 12 #[.string ⟨u.toArray⟩, .int .i64 was] w fun e w' => e = .returned (.tuple #[.int .i64 n, .bool true]) ∧ Below w.heap.size w w' := fun u hu w hE => by
    rw [quoB_list] at hu
    obtain ⟨m, rfl, hm⟩ := cased_marks u _ hu
    obtain ⟨hl, hs⟩ := cased_level m n h0 h1 hm
    have hlen : m.length = (lvName n).size := by have := congrArg List.length hm; rw [size_eq]; simpa using this
    have h := parseJSON_any ⟨m.toArray⟩ was (by rw [size_eq]; show m.length ≤ _; omega) (fun c hc => simpleU (hs c hc)) w hE
    unfold ParsedPost at h
    rw [show (⟨m.toArray⟩ : ByteArray).data.toList = m from rfl, hl] at h
    have e : (⟨(34 :: (m ++ [34])).toArray⟩ : ByteArray) = inMarks ⟨m.toArray⟩ := by
      apply ByteArray.ext
      apply Array.toList_inj.1
      rw [inMarks_list]
    rw [e]
    exact h
  have cT := fun wx hp => levelText_any n h0 h1 wx hp
  have cJ := fun wx hp hT => levelJSON_any n h0 h1 goPrintTabs wx hp hT
  generalize quoB (lvName n) = J at hJ cJ hqz
  generalize lvName n = N at hT cT hz hqz
  have cC := fun wx => cased_any N (by omega) f hf.1 hf.2 wx
  have cD := fun wx => cased_any J (by omega) f hf.1 hf.2 wx
  have HE := Lib.hid hE
  have HP := Lib.hid hP
  have CT := Lib.hid cT
  have CJ := Lib.hid cJ
  have CC := Lib.hid cC
  have CD := Lib.hid cD
  have HT := Lib.hid hT
  have HJ := Lib.hid hJ
  clear hE hP cT cJ cC cD hT hJ h0 h1
  go_enter Tryd.func5, Tryd.ntmps5
  go_wp2_with (first
    | (go_at_call 15; refine (CT.out _ HP.out).mono ?_; rintro e w1 ⟨rfl, hb1⟩; have HB1 := Lib.hid hb1; clear hb1)
    | (go_at_call 10; with_reducible refine (CC.out _).mono ?_; rintro e w2 ⟨⟨t, rfl, ht⟩, hb2⟩; have HB2 := Lib.hid (below_then HB1.out hb2); have Ht := Lib.hid ht; clear hb2 ht)
    | (go_at_call 11; refine (HT.out _ Ht.out _ (HE.out.on HB2.out)).mono ?_; rintro e w3 ⟨rfl, hb3⟩; have HB3 := Lib.hid (below_then HB2.out hb3); clear hb3)
    | (go_at_call 17; refine (CJ.out _ (HP.out.on HB3.out) (HE.out.on HB3.out).print).mono ?_; rintro e w4 ⟨rfl, hb4⟩; have HB4 := Lib.hid (below_then HB3.out hb4); clear hb4)
    | (go_at_call 10; with_reducible refine (CD.out _).mono ?_; rintro e w5 ⟨⟨u, rfl, hu⟩, hb5⟩; have HB5 := Lib.hid (below_then HB4.out hb5); have Hu := Lib.hid hu; clear hb5 hu)
    | (go_at_call 12; refine (HJ.out _ Hu.out _ (HE.out.on HB5.out)).mono ?_; rintro e w6 ⟨rfl, hb6⟩; have HB6 := Lib.hid (below_then HB5.out hb6); clear hb6))
  go_ret
  exact ⟨by simp, HB6.out⟩

end Go.Proofs.YtconeignnananaaDoor.Lv
