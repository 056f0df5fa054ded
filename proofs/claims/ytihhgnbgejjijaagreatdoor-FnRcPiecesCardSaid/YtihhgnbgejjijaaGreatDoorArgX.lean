/- Rows of Args that a call makes itself: the cells; keys and values in turn: plain Lean. -/
import Derived.Test.YtihhgnbgejjijaaGreatDoorArgsP
namespace Go.Proofs.YtihhgnbgejjijaaGreatDoor.Va
set_option linter.unusedVariables false
set_option linter.unusedSimpArgs false
open Go Go.RowKit

theorem infoArg : (Tryz.prog.info? 37).map (fun i => (i.zero, i.size, i.bytes)) = some (some (.agg #[.int .i64 0, .string ByteArray.empty, .int .i64 0, .int .u64 0, .string ByteArray.empty, .int .i64 0, .int .i64 0, .int .i64 0, .slice none 0 0]), 9, 104) := by kernel_rfl
/-- An Arg's cells. -/
def cArg (a : GArg) (A : Option Addr) (len cap : Nat) : List Value := [.int .i64 a.what, .string a.key, .int .i64 a.val.kind, .int .u64 a.val.n, .string a.val.s, .int .i64 a.val.t.sec, .int .i64 a.val.t.nsec, .int .i64 a.val.t.off, .slice A len cap]
/-- A row of them, whose lists lie in world w. -/
def RArgX (w : World) : List GArg → List Value → Prop
  | [], xs => xs = []
  | a :: r, xs => ∃ A len cap ys, xs = cArg a A len cap ++ ys ∧ RS w a.val.l A len ∧ RArgX w r ys
theorem RArgX.keep {w w' : World} (hk : Keeps w w') : ∀ (l : List GArg) (xs : List Value), RArgX w l xs → RArgX w' l xs
  | [], _, h => h
  | a :: r, xs, h => by
    obtain ⟨A, len, cap, ys, e, hl, hr⟩ := h
    exact ⟨A, len, cap, ys, e, hl.keep hk, RArgX.keep hk r ys hr⟩
theorem RArgX.app {w : World} : ∀ (l m : List GArg) (xs ys : List Value), RArgX w l xs → RArgX w m ys → RArgX w (l ++ m) (xs ++ ys)
  | [], _, xs, _, h, k => by cases h; exact k
  | a :: r, m, xs, zs, h, k => by
    obtain ⟨A, len, cap, ys, rfl, hl, hr⟩ := h
    exact ⟨A, len, cap, ys ++ zs, by rw [List.append_assoc], hl, RArgX.app r m ys zs hr k⟩
theorem RArgX.one {w : World} (a : GArg) {A : Option Addr} {len cap : Nat} (h : RS w a.val.l A len) : RArgX w [a] (cArg a A len cap) := ⟨A, len, cap, [], by simp, h, rfl⟩
theorem RArgX.len {w : World} : ∀ (l : List GArg) (xs : List Value), RArgX w l xs → xs.length = l.length * 9
  | [], xs, h => by cases h; rfl
  | a :: r, xs, h => by
    obtain ⟨A, len, cap, ys, rfl, hl, hr⟩ := h
    have := RArgX.len r ys hr
    simp only [List.length_append, List.length_cons, cArg, List.length_nil]
    omega
theorem RArgX.rows {w w' : World} (hk : Keeps w w') : ∀ (l : List GArg) (xs : List Value) (b o : Nat), RArgX w l xs → (∀ j u, xs[j]? = some u → w'.cell? ⟨b, o + j, none⟩ = some u) → RArgs w' l b o
  | [], _, _, _, _, _ => trivial
  | ⟨what, key, .mk k n s t l⟩ :: r, xs, b, o, h, hc => by
    obtain ⟨A, len, cap, ys, rfl, hl, hr⟩ := h
    have hl := hl.keep hk
    refine ⟨hc 0 _ rfl, hc 1 _ rfl, ?_, RArgX.rows hk r ys b (o + 9) hr fun j u hj => ?_⟩
    · unfold RVal
      exact ⟨hc 2 _ rfl, hc 3 _ rfl, hc 4 _ rfl, hc 5 _ rfl, hc 6 _ rfl, hc 7 _ rfl, A, len, cap, hc 8 _ rfl, hl.1, hl.2⟩
    · have := hc (j + 9) u (by rw [List.getElem?_append_right (by simp [cArg])]; simpa [cArg] using hj)
      rwa [show o + 9 + j = o + (j + 9) by omega]
theorem rargs_of_owns {w w' : World} {base : Nat} {e : TypeId} {l : List GArg} {xs : List Value} {v : Value} {n : Nat} (hown : w'.ownsRow base e 9 v n xs) (hx : RArgX w l xs) (hk : Keeps w w') : ∃ A cap, v = .slice A n cap ∧ n ≤ cap ∧ RArgS w' l A n := by
  have hlen := RArgX.len l xs hx
  have h1 := hown.1
  rcases hown.2 with ⟨rfl, rfl⟩ | ⟨g, cap, cur, rfl, hb, hg, hnc, hcm, hcs, htake⟩
  · exact ⟨none, 0, rfl, Nat.le_refl _, by omega, fun h => absurd h (by omega)⟩
  · refine ⟨_, cap, rfl, hnc, by omega, fun h => ⟨g, 0, rfl, RArgX.rows hk l xs g 0 hx fun j u hu => ?_⟩⟩
    have h3 := hown.cells (g := g) rfl j u hu
    have hadd : (⟨g, 0, none⟩ : Addr).add j = ⟨g, 0 + j, none⟩ := by unfold Addr.add; split <;> simp_all
    rwa [hadd] at h3

theorem pairArgs_app (p : Bool) : ∀ a b : GAttrs, pairArgs p (a.append b) = pairArgs p a ++ pairArgs p b
  | .nil, _ => rfl
  | .cons k v r, b => by
    show _ :: _ :: pairArgs p (r.append b) = _
    rw [pairArgs_app p r b]; rfl
theorem wholeArgs_app : ∀ a b : GAttrs, wholeArgs (a.append b) = wholeArgs a ++ wholeArgs b
  | .nil, _ => rfl
  | .cons k v r, b => by
    show _ :: wholeArgs (r.append b) = _
    rw [wholeArgs_app r b]; rfl
theorem pairArgs_len (p : Bool) : ∀ a : GAttrs, (pairArgs p a).length = 2 * a.len
  | .nil => rfl
  | .cons k v r => by simp only [pairArgs, List.length_cons, GAttrs.len, pairArgs_len p r]; omega
theorem wholeArgs_len : ∀ a : GAttrs, (wholeArgs a).length = a.len
  | .nil => rfl
  | .cons k v r => by simp only [wholeArgs, List.length_cons, GAttrs.len, wholeArgs_len r]
def pEnd : GArg := ⟨1, ByteArray.empty, .mk 4 7 ByteArray.empty .zero .nil⟩
def wEnd : GArg := ⟨0, badKey, .mk 4 7 ByteArray.empty .zero .nil⟩
theorem good_str (k : ByteArray) : good (.mk 5 0 k .zero .nil) := by
  unfold good goodAll; exact ⟨by omega, by omega, fun h => by omega, fun h => by omega, fun h => by omega, fun h => by omega, trivial⟩
theorem good_seven : good (.mk 4 7 ByteArray.empty .zero .nil) := by
  unfold good goodAll; exact ⟨by omega, by omega, fun h => by omega, fun h => by omega, fun h => by omega, fun h => by omega, trivial⟩
theorem wf_str (k : ByteArray) (h : k.size ≤ 140737488355328) : (GVal.mk 5 0 k .zero .nil).wf := by
  unfold GVal.wf GAttrs.wf; exact ⟨by omega, by omega, h, by decide, by decide, by decide, by simp [GAttrs.len], trivial⟩
theorem wf_seven : (GVal.mk 4 7 ByteArray.empty .zero .nil).wf := by
  unfold GVal.wf GAttrs.wf; exact ⟨by omega, by omega, Nat.zero_le _, by decide, by decide, by decide, by simp [GAttrs.len], trivial⟩
theorem pair_facts (p : Bool) : ∀ l : GAttrs, goodAll l → l.wf → argsGood (pairArgs p l) ∧ argsWf (pairArgs p l) ∧ argsSize (pairArgs p l) ≤ 2 * l.size ∧ ∀ r, pairsOk r → pairsOk (pairArgs p l ++ r)
  | .nil, _, _ => ⟨trivial, trivial, Nat.zero_le _, fun _ h => h⟩
  | .cons k v r, hg, hw => by
    unfold goodAll at hg
    unfold GAttrs.wf at hw
    obtain ⟨h1, h2, h3, h4⟩ := pair_facts p r hg.2 hw.2.2
    have hp := size_pos v
    refine ⟨⟨⟨by simp, by simp⟩, good_str k, ⟨?_, ?_⟩, hg.1, h1⟩, ⟨⟨by simp, Nat.zero_le _, wf_str k hw.1⟩, ⟨?_, Nat.zero_le _, hw.2.1⟩, h2⟩, ?_, fun s hs => ?_⟩
    · cases p <;> simp
    · cases p <;> simp
    · cases p <;> simp
    · simp only [pairArgs, argsSize, GAttrs.size, GVal.size]; omega
    · show pairsOk (_ :: _ :: (pairArgs p r ++ s))
      rw [pairsOk, if_pos ⟨rfl, rfl⟩]
      exact ⟨by cases p <;> simp, h4 s hs⟩
theorem whole_facts : ∀ l : GAttrs, goodAll l → l.wf → argsGood (wholeArgs l) ∧ argsWf (wholeArgs l) ∧ argsSize (wholeArgs l) ≤ l.size ∧ pairsOk (wholeArgs l ++ [wEnd])
  | .nil, _, _ => ⟨trivial, trivial, Nat.zero_le _, trivial⟩
  | .cons k v r, hg, hw => by
    unfold goodAll at hg
    unfold GAttrs.wf at hw
    obtain ⟨h1, h2, h3, h4⟩ := whole_facts r hg.2 hw.2.2
    refine ⟨⟨by simp, hg.1, h1⟩, ⟨⟨by simp, hw.1, hw.2.1⟩, h2⟩, ?_, ?_⟩
    · simp only [wholeArgs, argsSize, GAttrs.size]; omega
    · cases r with
      | nil =>
        show pairsOk [_, _]
        rw [pairsOk, if_neg (by intro h; have := h.1; simp at this)]
        exact h4
      | cons k2 v2 r2 =>
        show pairsOk (_ :: _ :: _)
        rw [pairsOk, if_neg (by intro h; have := h.1; simp at this)]
        exact h4
/-- Both tell the same. -/
theorem pair_told (p : Bool) (l : GAttrs) : argsTold (pairArgs p l ++ [pEnd]) = argsTold (wholeArgs l ++ [wEnd]) := by
  unfold argsTold
  rw [rcRaw_app _ _ (pair_raw p l).2, rcRaw_app _ _ (whole_raw l).2, (pair_raw p l).1, (whole_raw l).1]
  rfl
theorem told_len : ∀ l : SAttrs, (attrsTold l).len = l.len
  | .nil => by simp [attrsTold, GAttrs.len, SAttrs.len]
  | .cons k v r => by simp only [attrsTold, GAttrs.len, SAttrs.len, told_len r]
def argsEach (l : List GArg) : Prop := ∀ a ∈ l, a.val.size ≤ 65536
theorem argsOk_each : ∀ l : List GArg, argsGood l → argsEach l → argsOk l
  | [], _, _ => trivial
  | a :: r, h, hs => ⟨h.1, hs a (List.mem_cons_self ..), argsOk_each r h.2.2 (fun x hx => hs x (List.mem_cons_of_mem _ hx))⟩
theorem pair_each' (p : Bool) : ∀ l : GAttrs, l.size ≤ 65536 → ∀ a ∈ pairArgs p l, a.val.size ≤ 65536
  | .nil, _, a, h => by cases h
  | .cons k v r, hs, a, h => by
    simp only [GAttrs.size] at hs
    simp only [pairArgs, List.mem_cons] at h
    rcases h with rfl | rfl | h
    · simp only [GVal.size, GAttrs.size]; omega
    · show v.size ≤ _; omega
    · exact pair_each' p r (by omega) a h
theorem whole_each' : ∀ l : GAttrs, l.size ≤ 65536 → ∀ a ∈ wholeArgs l, a.val.size ≤ 65536
  | .nil, _, a, h => by cases h
  | .cons k v r, hs, a, h => by
    simp only [GAttrs.size] at hs
    simp only [wholeArgs, List.mem_cons] at h
    rcases h with rfl | h
    · show v.size ≤ _; omega
    · exact whole_each' r (by omega) a h
theorem pair_each (p : Bool) (l : GAttrs) (h : l.size ≤ 65536) : argsEach (pairArgs p l ++ [pEnd]) := fun a ha => by
  rcases List.mem_append.1 ha with h1 | h1
  · exact pair_each' p l h a h1
  · simp only [List.mem_singleton] at h1; subst h1; simp only [pEnd, GVal.size, GAttrs.size]; omega
theorem whole_each (l : GAttrs) (h : l.size ≤ 65536) : argsEach (wholeArgs l ++ [wEnd]) := fun a ha => by
  rcases List.mem_append.1 ha with h1 | h1
  · exact whole_each' l h a h1
  · simp only [List.mem_singleton] at h1; subst h1; simp only [wEnd, GVal.size, GAttrs.size]; omega
theorem slen_app2 : ∀ l m : SAttrs, (SAttrs.append l m).len = l.len + m.len
  | .nil, m => by show m.len = 0 + m.len; omega
  | .cons k v r, m => by show (SAttrs.append r m).len + 1 = (r.len + 1) + m.len; rw [slen_app2 r m]; omega
theorem whole_some (l : GAttrs) : 0 < (argsTold (wholeArgs l ++ [wEnd])).len := by
  unfold argsTold
  rw [rcRaw_app _ _ (whole_raw l).2, attrsOf_app, full_append, told_len, slen_app2]
  have : (attrsOf none (rcRaw [wEnd])).full.len = 1 := rfl
  omega

end Go.Proofs.YtihhgnbgejjijaaGreatDoor.Va
