/- Rows of Args that a call makes itself: the cells; keys and values in turn: plain Lean. -/
import Derived.Test.YtihhgnbgejjijaaGreatDoorArgsP
import Derived.Laws.OwnMore
import Derived.Deep.AppendLies
import Derived.Test.YtihhgnbgejjijaaGreatDoorClosA
import Derived.BigFrame
namespace Go.Proofs.YtihhgnbgejjijaaGreatDoor.Va
set_option linter.unusedVariables false
set_option linter.unusedSimpArgs false
open Go Go.RowKit

theorem infoArg : (Tryz.prog.info? 37).map (fun i => (i.zero, i.size, i.bytes)) = some (some (.agg #[.int .i64 0, .string ByteArray.empty, .int .i64 0, .int .u64 0, .string ByteArray.empty, .int .i64 0, .int .i64 0, .int .i64 0, .slice none 0 0]), 9, 104) := by kernel_rfl
/-- An Arg's cells. -/
def cArg (a : GArg) (A : Option Addr) (len cap : Nat) : List Value := [.int .i64 a.what, .string a.key, .int .i64 a.val.kind, .int .u64 a.val.n, .string a.val.s, .int .i64 a.val.t.sec, .int .i64 a.val.t.nsec, .int .i64 a.val.t.off, .slice A len cap]
/-- A row of them, whose lists lie in world w. -/
def RArgX (w : World) : List GArg → List Value → Prop
  | [], xs => xs = []
  | a :: r, xs => ∃ A len cap ys, xs = cArg a A len cap ++ ys ∧ RS w a.val.l A len ∧ RArgX w r ys
theorem RArgX.keep {w w' : World} (hk : Keeps w w') : ∀ (l : List GArg) (xs : List Value), RArgX w l xs → RArgX w' l xs
  | [], _, h => h
  | a :: r, xs, h => by
    obtain ⟨A, len, cap, ys, e, hl, hr⟩ := h
    exact ⟨A, len, cap, ys, e, hl.keep hk, RArgX.keep hk r ys hr⟩
theorem RArgX.app {w : World} : ∀ (l m : List GArg) (xs ys : List Value), RArgX w l xs → RArgX w m ys → RArgX w (l ++ m) (xs ++ ys)
  | [], _, xs, _, h, k => by cases h; exact k
  | a :: r, m, xs, zs, h, k => by
    obtain ⟨A, len, cap, ys, rfl, hl, hr⟩ := h
    exact ⟨A, len, cap, ys ++ zs, by rw [List.append_assoc], hl, RArgX.app r m ys zs hr k⟩
theorem RArgX.one {w : World} (a : GArg) {A : Option Addr} {len cap : Nat} (h : RS w a.val.l A len) : RArgX w [a] (cArg a A len cap) := ⟨A, len, cap, [], by simp, h, rfl⟩
theorem RArgX.len {w : World} : ∀ (l : List GArg) (xs : List Value), RArgX w l xs → xs.length = l.length * 9
  | [], xs, h => by cases h; rfl
  | a :: r, xs, h => by
    obtain ⟨A, len, cap, ys, rfl, hl, hr⟩ := h
    have := RArgX.len r ys hr
    simp only [List.length_append, List.length_cons, cArg, List.length_nil]
    omega
theorem RArgX.rows {w w' : World} (hk : Keeps w w') : ∀ (l : List GArg) (xs : List Value) (b o : Nat), RArgX w l xs → (∀ j u, xs[j]? = some u → w'.cell? ⟨b, o + j, none⟩ = some u) → RArgs w' l b o
  | [], _, _, _, _, _ => trivial
  | ⟨what, key, .mk k n s t l⟩ :: r, xs, b, o, h, hc => by
    obtain ⟨A, len, cap, ys, rfl, hl, hr⟩ := h
    have hl := hl.keep hk
    refine ⟨hc 0 _ rfl, hc 1 _ rfl, ?_, RArgX.rows hk r ys b (o + 9) hr fun j u hj => ?_⟩
    · unfold RVal
      exact ⟨hc 2 _ rfl, hc 3 _ rfl, hc 4 _ rfl, hc 5 _ rfl, hc 6 _ rfl, hc 7 _ rfl, A, len, cap, hc 8 _ rfl, hl.1, hl.2⟩
    · have := hc (j + 9) u (by rw [List.getElem?_append_right (by simp [cArg])]; simpa [cArg] using hj)
      rwa [show o + 9 + j = o + (j + 9) by omega]
theorem rargs_of_owns {w w' : World} {base : Nat} {e : TypeId} {l : List GArg} {xs : List Value} {v : Value} {n : Nat} (hown : w'.ownsRow base e 9 v n xs) (hx : RArgX w l xs) (hk : Keeps w w') : ∃ A cap, v = .slice A n cap ∧ n ≤ cap ∧ RArgS w' l A n := by
  have hlen := RArgX.len l xs hx
  have h1 := hown.1
  rcases hown.2 with ⟨rfl, rfl⟩ | ⟨g, cap, cur, rfl, hb, hg, hnc, hcm, hcs, htake⟩
  · exact ⟨none, 0, rfl, Nat.le_refl _, by omega, fun h => absurd h (by omega)⟩
  · refine ⟨_, cap, rfl, hnc, by omega, fun h => ⟨g, 0, rfl, RArgX.rows hk l xs g 0 hx fun j u hu => ?_⟩⟩
    have h3 := hown.cells (g := g) rfl j u hu
    have hadd : (⟨g, 0, none⟩ : Addr).add j = ⟨g, 0 + j, none⟩ := by unfold Addr.add; split <;> simp_all
    rwa [hadd] at h3

theorem pairArgs_app (p : Bool) : ∀ a b : GAttrs, pairArgs p (a.append b) = pairArgs p a ++ pairArgs p b
  | .nil, _ => rfl
  | .cons k v r, b => by
    show _ :: _ :: pairArgs p (r.append b) = _
    rw [pairArgs_app p r b]; rfl
theorem wholeArgs_app : ∀ a b : GAttrs, wholeArgs (a.append b) = wholeArgs a ++ wholeArgs b
  | .nil, _ => rfl
  | .cons k v r, b => by
    show _ :: wholeArgs (r.append b) = _
    rw [wholeArgs_app r b]; rfl
theorem pairArgs_len (p : Bool) : ∀ a : GAttrs, (pairArgs p a).length = 2 * a.len
  | .nil => rfl
  | .cons k v r => by simp only [pairArgs, List.length_cons, GAttrs.len, pairArgs_len p r]; omega
theorem wholeArgs_len : ∀ a : GAttrs, (wholeArgs a).length = a.len
  | .nil => rfl
  | .cons k v r => by simp only [wholeArgs, List.length_cons, GAttrs.len, wholeArgs_len r]
def pEnd : GArg := ⟨1, ByteArray.empty, .mk 4 7 ByteArray.empty .zero .nil⟩
def wEnd : GArg := ⟨0, badKey, .mk 4 7 ByteArray.empty .zero .nil⟩
theorem good_str (k : ByteArray) : good (.mk 5 0 k .zero .nil) := by
  unfold good goodAll; exact ⟨by omega, by omega, fun h => by omega, fun h => by omega, fun h => by omega, fun h => by omega, trivial⟩
theorem good_seven : good (.mk 4 7 ByteArray.empty .zero .nil) := by
  unfold good goodAll; exact ⟨by omega, by omega, fun h => by omega, fun h => by omega, fun h => by omega, fun h => by omega, trivial⟩
theorem wf_str (k : ByteArray) (h : k.size ≤ 140737488355328) : (GVal.mk 5 0 k .zero .nil).wf := by
  unfold GVal.wf GAttrs.wf; exact ⟨by omega, by omega, h, by decide, by decide, by decide, by simp [GAttrs.len], trivial⟩
theorem wf_seven : (GVal.mk 4 7 ByteArray.empty .zero .nil).wf := by
  unfold GVal.wf GAttrs.wf; exact ⟨by omega, by omega, Nat.zero_le _, by decide, by decide, by decide, by simp [GAttrs.len], trivial⟩
theorem pair_facts (p : Bool) : ∀ l : GAttrs, goodAll l → l.wf → argsGood (pairArgs p l) ∧ argsWf (pairArgs p l) ∧ argsSize (pairArgs p l) ≤ 2 * l.size ∧ ∀ r, pairsOk r → pairsOk (pairArgs p l ++ r)
  | .nil, _, _ => ⟨trivial, trivial, Nat.zero_le _, fun _ h => h⟩
  | .cons k v r, hg, hw => by
    unfold goodAll at hg
    unfold GAttrs.wf at hw
    obtain ⟨h1, h2, h3, h4⟩ := pair_facts p r hg.2 hw.2.2
    have hp := size_pos v
    refine ⟨⟨⟨by simp, by simp⟩, good_str k, ⟨?_, ?_⟩, hg.1, h1⟩, ⟨⟨by simp, Nat.zero_le _, wf_str k hw.1⟩, ⟨?_, Nat.zero_le _, hw.2.1⟩, h2⟩, ?_, fun s hs => ?_⟩
    · cases p <;> simp
    · cases p <;> simp
    · cases p <;> simp
    · simp only [pairArgs, argsSize, GAttrs.size, GVal.size]; omega
    · show pairsOk (_ :: _ :: (pairArgs p r ++ s))
      rw [pairsOk, if_pos ⟨rfl, rfl⟩]
      exact ⟨by cases p <;> simp, h4 s hs⟩
theorem whole_facts : ∀ l : GAttrs, goodAll l → l.wf → argsGood (wholeArgs l) ∧ argsWf (wholeArgs l) ∧ argsSize (wholeArgs l) ≤ l.size ∧ pairsOk (wholeArgs l ++ [wEnd])
  | .nil, _, _ => ⟨trivial, trivial, Nat.zero_le _, trivial⟩
  | .cons k v r, hg, hw => by
    unfold goodAll at hg
    unfold GAttrs.wf at hw
    obtain ⟨h1, h2, h3, h4⟩ := whole_facts r hg.2 hw.2.2
    refine ⟨⟨by simp, hg.1, h1⟩, ⟨⟨by simp, hw.1, hw.2.1⟩, h2⟩, ?_, ?_⟩
    · simp only [wholeArgs, argsSize, GAttrs.size]; omega
    · cases r with
      | nil =>
        show pairsOk [_, _]
        rw [pairsOk, if_neg (by intro h; have := h.1; simp at this)]
        exact h4
      | cons k2 v2 r2 =>
        show pairsOk (_ :: _ :: _)
        rw [pairsOk, if_neg (by intro h; have := h.1; simp at this)]
        exact h4
/-- Both tell the same. -/
theorem pair_told (p : Bool) (l : GAttrs) : argsTold (pairArgs p l ++ [pEnd]) = argsTold (wholeArgs l ++ [wEnd]) := by
  unfold argsTold
  rw [rcRaw_app _ _ (pair_raw p l).2, rcRaw_app _ _ (whole_raw l).2, (pair_raw p l).1, (whole_raw l).1]
  rfl
theorem told_len : ∀ l : SAttrs, (attrsTold l).len = l.len
  | .nil => by simp [attrsTold, GAttrs.len, SAttrs.len]
  | .cons k v r => by simp only [attrsTold, GAttrs.len, SAttrs.len, told_len r]
def argsEach (l : List GArg) : Prop := ∀ a ∈ l, a.val.size ≤ 65536
theorem argsOk_each : ∀ l : List GArg, argsGood l → argsEach l → argsOk l
  | [], _, _ => trivial
  | a :: r, h, hs => ⟨h.1, hs a (List.mem_cons_self ..), argsOk_each r h.2.2 (fun x hx => hs x (List.mem_cons_of_mem _ hx))⟩
theorem pair_each' (p : Bool) : ∀ l : GAttrs, l.size ≤ 65536 → ∀ a ∈ pairArgs p l, a.val.size ≤ 65536
  | .nil, _, a, h => by cases h
  | .cons k v r, hs, a, h => by
    simp only [GAttrs.size] at hs
    simp only [pairArgs, List.mem_cons] at h
    rcases h with rfl | rfl | h
    · simp only [GVal.size, GAttrs.size]; omega
    · show v.size ≤ _; omega
    · exact pair_each' p r (by omega) a h
theorem whole_each' : ∀ l : GAttrs, l.size ≤ 65536 → ∀ a ∈ wholeArgs l, a.val.size ≤ 65536
  | .nil, _, a, h => by cases h
  | .cons k v r, hs, a, h => by
    simp only [GAttrs.size] at hs
    simp only [wholeArgs, List.mem_cons] at h
    rcases h with rfl | h
    · show v.size ≤ _; omega
    · exact whole_each' r (by omega) a h
theorem pair_each (p : Bool) (l : GAttrs) (h : l.size ≤ 65536) : argsEach (pairArgs p l ++ [pEnd]) := fun a ha => by
  rcases List.mem_append.1 ha with h1 | h1
  · exact pair_each' p l h a h1
  · simp only [List.mem_singleton] at h1; subst h1; simp only [pEnd, GVal.size, GAttrs.size]; omega
theorem whole_each (l : GAttrs) (h : l.size ≤ 65536) : argsEach (wholeArgs l ++ [wEnd]) := fun a ha => by
  rcases List.mem_append.1 ha with h1 | h1
  · exact whole_each' l h a h1
  · simp only [List.mem_singleton] at h1; subst h1; simp only [wEnd, GVal.size, GAttrs.size]; omega
theorem slen_app2 : ∀ l m : SAttrs, (SAttrs.append l m).len = l.len + m.len
  | .nil, m => by show m.len = 0 + m.len; omega
  | .cons k v r, m => by show (SAttrs.append r m).len + 1 = (r.len + 1) + m.len; rw [slen_app2 r m]; omega
theorem whole_some (l : GAttrs) : 0 < (argsTold (wholeArgs l ++ [wEnd])).len := by
  unfold argsTold
  rw [rcRaw_app _ _ (whole_raw l).2, attrsOf_app, full_append, told_len, slen_app2]
  have : (attrsOf none (rcRaw [wEnd])).full.len = 1 := rfl
  omega

end Go.Proofs.YtihhgnbgejjijaaGreatDoor.Va

/- Single blocks from world to world. -/
namespace Go.Proofs.YtihhgnbgejjijaaGreatDoor.Va
set_option linter.unusedVariables false
set_option linter.unusedSimpArgs false
open Go Go.RowKit

theorem new_blk {w : World} {g : Nat} {o : Obj} (h : g = w.heap.size) : (w.alloc o).heap[g]? = some o := by subst h; exact heap_alloc_new w o
theorem old_blk {w : World} {g : Nat} {o : Obj} (h : g < w.heap.size) : (w.alloc o).heap[g]? = w.heap[g]? := by
  show (w.heap.push o)[g]? = w.heap[g]?
  rw [Array.getElem?_push, if_neg (Nat.ne_of_lt h)]
theorem own_ge {base g n c : Nat} (hb : base ≤ g) : ∀ k, (Value.slice (some ⟨g, 0, none⟩) n c).ownBlock = some k → base ≤ k := fun k h => by
  have : some g = some k := h
  injection this with this
  omega
theorem drew_blk (w : World) (g : Nat) : w.drew.heap[g]? = w.heap[g]? := rfl
theorem own_to {w w' : World} {base : Nat} {e : TypeId} {size : Nat} {v : Value} {n : Nat} {xs : List Value} (h : w.ownsRow base e size v n xs) (hk : ∀ g, v.ownBlock = some g → base ≤ g ∧ g < w.heap.size → w'.heap[g]? = w.heap[g]?) : w'.ownsRow base e size v n xs := by
  have hl := h.lt
  refine ⟨h.1, ?_⟩
  rcases h.2 with hn | ⟨g, cap, cur, rfl, hbg, hgg, rest⟩
  · exact .inl hn
  · exact .inr ⟨g, cap, cur, rfl, hbg, (hk g rfl (hl g rfl)).trans hgg, rest⟩
theorem own_lit {w : World} {base g : Nat} {e : TypeId} {size : Nat} (hb : base ≤ g) (hg : g = w.heap.size) : (w.alloc (.cells #[] e)).ownsRow base e size (.slice (some ⟨g, 0, none⟩) 0 0) 0 [] := by
  subst hg
  exact World.ownsRow_lit w #[] 0 hb (Nat.zero_le _) (by simp)
theorem own_blk0 {w : World} {base g : Nat} {e : TypeId} {size : Nat} (hb : base ≤ g) (h : w.heap[g]? = some (.cells #[] e (0, 0))) : w.ownsRow base e size (.slice (some ⟨g, 0, none⟩) 0 0) 0 [] :=
  ⟨by simp, .inr ⟨g, 0, #[], rfl, hb, h, Nat.le_refl _, Nat.zero_le _, by simp, by simp⟩⟩
theorem ne_at {g g1 n c k : Nat} {v : Value} (h : v.ownBlock = (Value.slice (some ⟨g1, 0, none⟩) n c).ownBlock ∨ v.ownBlock = some k) (h1 : g ≠ g1) (h2 : g ≠ k) : some g ≠ v.ownBlock := fun e => by
  rcases h with h | h
  · rw [← e] at h
    have h : some g = some g1 := h
    injection h with h
    exact h1 h
  · rw [← e] at h
    injection h with h
    exact h2 h
theorem ne_lt {g base m : Nat} {v : Value} (h : ∀ k, v.ownBlock = some k → base ≤ k ∧ k < m) (hg : m ≤ g) : some g ≠ v.ownBlock := fun e => by
  have := (h g e.symm).2
  omega
theorem add_at (g j : Nat) : (⟨g, 0, none⟩ : Addr).add j = ⟨g, j, none⟩ := by unfold Addr.add; split <;> simp_all

end Go.Proofs.YtihhgnbgejjijaaGreatDoor.Va

/- append(x, l...) where l may be nil or empty: onto a row of one's own. -/
namespace Go.Proofs.YtihhgnbgejjijaaGreatDoor.Va
set_option linter.unusedVariables false
set_option linter.unusedSimpArgs false
open Go Go.RowKit

/-- The cells that a slice has; of one without elements nothing is asked. -/
def Src (w : World) (size : Nat) (A : Option Addr) (m : Nat) (news : List Value) : Prop :=
  news.length = m * size ∧ (0 < m → ∃ b o, A = some ⟨b, o, none⟩ ∧ ∀ j u, news[j]? = some u → w.cell? ⟨b, o + j, none⟩ = some u)
theorem Src.keep {w w' : World} {size : Nat} {A : Option Addr} {m : Nat} {news : List Value} (h : Src w size A m news) (hk : Keeps w w') : Src w' size A m news :=
  ⟨h.1, fun hm => by obtain ⟨b, o, e, hc⟩ := h.2 hm; exact ⟨b, o, e, fun j u hj => hk.cell (hc j u hj)⟩⟩

section
variable {P : Program} (w : World)

theorem run_append_src (base : Nat) (t ty e : TypeId) (i : TypeInfo) (z : Value) (size bytes : Nat) (ht : P.underlying t = some (.slice e)) (hi : P.info? e = some i) (hz : i.zero = some z)
    (hsize : i.size = size) (hby : i.bytes = bytes) (hzs : z.cells.size = size) (hsz : 0 < size) (v : Value) (n : Nat) (xs : List Value) (hown : w.ownsRow base e size v n xs)
    (A : Option Addr) (m c : Nat) (news : List Value) (hs : Src w size A m news) (h1 : ∀ u ∈ news, u.oneCell' = true) (h63 : n + m ≤ maxLen) (hbytes : (n + m) * bytes ≤ 140737488355328) (hbase : base ≤ w.heap.size) :
    ∃ v' w', (Builtin.append_ #[t, t] ty #[v, .slice A m c]).run P w = .ok v' w' ∧ w'.ownsRow base e size v' (n + m) (xs ++ news) ∧ w.grownBy w' v.ownBlock ∧ (v'.ownBlock = v.ownBlock ∨ v'.ownBlock = some w.heap.size) := by
  cases m with
  | zero =>
    have hn : news = [] := List.eq_nil_of_length_eq_zero (by simpa using hs.1)
    subst hn
    cases A with
    | none =>
      refine ⟨v, w, ?_, by simpa using hown, World.grownBy.refl w _, .inl rfl⟩
      rcases hown.2 with ⟨rfl, rfl⟩ | ⟨g, cap, cur, rfl, _, _, hnc, _⟩
      · simp [Builtin.append_, run_underlying ht, sizeOf, typeInfo, hi, Builtin.lenOf, Builtin.firstCells]
      · simp [Builtin.append_, run_underlying ht, sizeOf, typeInfo, hi, Builtin.lenOf, Builtin.firstCells, hnc, storeCells]
    | some ad =>
      obtain ⟨v', w', hr, h2, h3, _, h5⟩ := run_append_own_at (P := P) w base t ty e i z size bytes ht hi hz hsize hby hzs hsz v n xs hown ad 0 c [] hs.1 (fun j u h => absurd h (by simp)) h1 h63 hbytes hbase
      exact ⟨v', w', hr, h2, h3, h5⟩
  | succ k =>
    obtain ⟨b, o, rfl, hc⟩ := hs.2 (by omega)
    obtain ⟨v', w', hr, h2, h3, _, h5⟩ := run_append_own_at (P := P) w base t ty e i z size bytes ht hi hz hsize hby hzs hsz v n xs hown ⟨b, o, none⟩ (k + 1) c news hs.1
      (fun j u h => by
        have hadd : (⟨b, o, none⟩ : Addr).add j = ⟨b, o + j, none⟩ := by unfold Addr.add; split <;> simp_all
        rw [hadd]; exact hc j u h) h1 h63 hbytes hbase
    exact ⟨v', w', hr, h2, h3, h5⟩

theorem wp_append_src {o : Oper} {a : Act} {K : Act → World → Prop} {Q : Exit → Act → World → Prop} (s x : Operand) (t : TypeId)
    (ho : o.op = .call { callee := .builtin .append, args := #[s, x], argTypes := #[t, t] })
    (base : Nat) (e : TypeId) (i : TypeInfo) (z : Value) (size bytes : Nat) (ht : P.underlying t = some (.slice e)) (hi : P.info? e = some i) (hz : i.zero = some z)
    (hsize : i.size = size) (hby : i.bytes = bytes) (hzs : z.cells.size = size) (hsz : 0 < size) (v : Value) (n : Nat) (xs : List Value) (hs : a.eval s = v) (hown : w.ownsRow base e size v n xs)
    (A : Option Addr) (m c : Nat) (news : List Value) (hx : a.eval x = .slice A m c) (hr : Src w size A m news) (h1 : ∀ u ∈ news, u.oneCell' = true)
    (h63 : n + m ≤ maxLen) (hbytes : (n + m) * bytes ≤ 140737488355328) (hbase : base ≤ w.heap.size)
    (h : ∀ v' w', w'.ownsRow base e size v' (n + m) (xs ++ news) → w.grownBy w' v.ownBlock → (v'.ownBlock = v.ownBlock ∨ v'.ownBlock = some w.heap.size) → K (a.put o.dst v') w') : o.wp P a w K Q := by
  obtain ⟨v', w', hrun, h2, h3, h4⟩ := run_append_src (P := P) w base t o.type e i z size bytes ht hi hz hsize hby hzs hsz v n xs hown A m c news hr h1 h63 hbytes hbase
  unfold Oper.wp execOp
  simp only [ho, resolve, invoke, builtin, Sem.run_bind, Sem.run_pure, Result.andThen_ok, List.map_toArray, List.map_cons, List.map_nil, hs, hx, hrun]
  exact h v' w' h2 h3 h4

/-- In a region that draws its order. -/
theorem step_append_src {ops : Array Oper} {o : Oper} {a : Act} {K : Act → World → Prop} {Q : Exit → Act → World → Prop} {E : Prop} (hgd : o.guard = none) (s x : Operand) (t : TypeId)
    (ho : o.op = .call { callee := .builtin .append, args := #[s, x], argTypes := #[t, t] })
    (base : Nat) (e : TypeId) (i : TypeInfo) (z : Value) (size bytes : Nat) (ht : P.underlying t = some (.slice e)) (hi : P.info? e = some i) (hz : i.zero = some z)
    (hsize : i.size = size) (hby : i.bytes = bytes) (hzs : z.cells.size = size) (hsz : 0 < size) (v : Value) (n : Nat) (xs : List Value) (hs : a.eval s = v) (hown : w.ownsRow base e size v n xs)
    (A : Option Addr) (m c : Nat) (news : List Value) (hx : a.eval x = .slice A m c) (hr : Src w size A m news) (h1 : ∀ u ∈ news, u.oneCell' = true)
    (h63 : n + m ≤ maxLen) (hbytes : (n + m) * bytes ≤ 140737488355328) (hbase : base ≤ w.heap.size)
    (h : ∀ v' w', w'.ownsRow base e size v' (n + m) (xs ++ news) → w.grownBy w' v.ownBlock → (v'.ownBlock = v.ownBlock ∨ v'.ownBlock = some w.heap.size) → K (a.put o.dst v') w') :
    if Region.wanted o (yielded ops a.tmps) = true then Oper.wp P o a w K Q else E := by
  rw [if_pos (show Region.wanted o (yielded ops a.tmps) = true by simp [Region.wanted, hgd])]
  exact wp_append_src w s x t ho base e i z size bytes ht hi hz hsize hby hzs hsz v n xs hs hown A m c news hx hr h1 h63 hbytes hbase h

/-- In a plain region. -/
theorem wpList_append_src {ops : Array Oper} {rest : List Oper} {o : Oper} {a : Act} {Q : Exit → Act → World → Prop} (hgd : o.guard = none) (s x : Operand) (t : TypeId)
    (ho : o.op = .call { callee := .builtin .append, args := #[s, x], argTypes := #[t, t] })
    (base : Nat) (e : TypeId) (i : TypeInfo) (z : Value) (size bytes : Nat) (ht : P.underlying t = some (.slice e)) (hi : P.info? e = some i) (hz : i.zero = some z)
    (hsize : i.size = size) (hby : i.bytes = bytes) (hzs : z.cells.size = size) (hsz : 0 < size) (v : Value) (n : Nat) (xs : List Value) (hs : a.eval s = v) (hown : w.ownsRow base e size v n xs)
    (A : Option Addr) (m c : Nat) (news : List Value) (hx : a.eval x = .slice A m c) (hr : Src w size A m news) (h1 : ∀ u ∈ news, u.oneCell' = true)
    (h63 : n + m ≤ maxLen) (hbytes : (n + m) * bytes ≤ 140737488355328) (hbase : base ≤ w.heap.size)
    (h : ∀ v' w', w'.ownsRow base e size v' (n + m) (xs ++ news) → w.grownBy w' v.ownBlock → (v'.ownBlock = v.ownBlock ∨ v'.ownBlock = some w.heap.size) → wpList P ops Q rest (a.put o.dst v') w') : wpList P ops Q (o :: rest) a w :=
  wpList_plain hgd fun _ hK => wp_append_src w s x t ho base e i z size bytes ht hi hz hsize hby hzs hsz v n xs hs hown A m c news hx hr h1 h63 hbytes hbase fun v' w' h2 h3 h4 => hK _ _ (h v' w' h2 h3 h4)

/-- In a plain region, where a guard says yes. -/
theorem wpList_append_src_g {ops : Array Oper} {rest : List Oper} {o : Oper} {a : Act} {Q : Exit → Act → World → Prop} (hgd : Region.wanted o (yielded ops a.tmps) = true) (s x : Operand) (t : TypeId)
    (ho : o.op = .call { callee := .builtin .append, args := #[s, x], argTypes := #[t, t] })
    (base : Nat) (e : TypeId) (i : TypeInfo) (z : Value) (size bytes : Nat) (ht : P.underlying t = some (.slice e)) (hi : P.info? e = some i) (hz : i.zero = some z)
    (hsize : i.size = size) (hby : i.bytes = bytes) (hzs : z.cells.size = size) (hsz : 0 < size) (v : Value) (n : Nat) (xs : List Value) (hs : a.eval s = v) (hown : w.ownsRow base e size v n xs)
    (A : Option Addr) (m c : Nat) (news : List Value) (hx : a.eval x = .slice A m c) (hr : Src w size A m news) (h1 : ∀ u ∈ news, u.oneCell' = true)
    (h63 : n + m ≤ maxLen) (hbytes : (n + m) * bytes ≤ 140737488355328) (hbase : base ≤ w.heap.size)
    (h : ∀ v' w', w'.ownsRow base e size v' (n + m) (xs ++ news) → w.grownBy w' v.ownBlock → (v'.ownBlock = v.ownBlock ∨ v'.ownBlock = some w.heap.size) → wpList P ops Q rest (a.put o.dst v') w') : wpList P ops Q (o :: rest) a w :=
  BigFrame.wpList_want hgd fun _ hK => wp_append_src w s x t ho base e i z size bytes ht hi hz hsize hby hzs hsz v n xs hs hown A m c news hx hr h1 h63 hbytes hbase fun v' w' h2 h3 h4 => hK _ _ (h v' w' h2 h3 h4)
end

end Go.Proofs.YtihhgnbgejjijaaGreatDoor.Va

/- Rows of Args that came in, as cells to be appended; rows of Attrs likewise. -/
namespace Go.Proofs.YtihhgnbgejjijaaGreatDoor.Va
set_option linter.unusedVariables false
set_option linter.unusedSimpArgs false
open Go Go.RowKit

theorem RArgX.of {w : World} : ∀ (l : List GArg) (b o : Nat), RArgs w l b o → ∃ xs, RArgX w l xs ∧ ∀ j u, xs[j]? = some u → w.cell? ⟨b, o + j, none⟩ = some u
  | [], _, _, _ => ⟨[], rfl, fun j u h => absurd h (by simp)⟩
  | ⟨what, key, .mk k n s t l⟩ :: r, b, o, h => by
    obtain ⟨h0, h1, hv, hr⟩ := h
    unfold RVal at hv
    obtain ⟨h2, h3, h4, h5, h6, h7, A, len, cap, h8, hl⟩ := hv
    obtain ⟨ys, hx, hcs⟩ := RArgX.of r b (o + 9) hr
    refine ⟨_, ⟨A, len, cap, ys, rfl, hl, hx⟩, fun j u hj => ?_⟩
    rcases j with _ | _ | _ | _ | _ | _ | _ | _ | _ | j
    · injection hj with hj; subst hj; exact h0
    · injection hj with hj; subst hj; exact h1
    · injection hj with hj; subst hj; exact h2
    · injection hj with hj; subst hj; exact h3
    · injection hj with hj; subst hj; exact h4
    · injection hj with hj; subst hj; exact h5
    · injection hj with hj; subst hj; exact h6
    · injection hj with hj; subst hj; exact h7
    · injection hj with hj; subst hj; exact h8
    · have hj' : ys[j]? = some u := by simpa [cArg] using hj
      have := hcs j u hj'
      rwa [show o + 9 + j = o + (j + 9) by omega] at this
theorem RArgX.cells {w : World} : ∀ (l : List GArg) (xs : List Value), RArgX w l xs → ∀ u ∈ xs, u.oneCell' = true
  | [], xs, h, u, hu => by cases h; cases hu
  | a :: r, xs, h, u, hu => by
    obtain ⟨A, len, cap, ys, rfl, hl, hr⟩ := h
    rcases List.mem_append.1 hu with hu | hu
    · simp only [cArg, List.mem_cons, List.not_mem_nil, or_false] at hu
      (repeat' (rcases hu with rfl | hu)) <;> first | rfl | (subst hu; rfl)
    · exact RArgX.cells r ys hr u hu
theorem src_args {w : World} {l : List GArg} {A : Option Addr} {len : Nat} (h : RArgS w l A len) : ∃ xs, RArgX w l xs ∧ Src w 9 A len xs ∧ ∀ u ∈ xs, u.oneCell' = true := by
  obtain ⟨h1, h2⟩ := h
  by_cases hz : 0 < len
  · obtain ⟨b, o, e, hr⟩ := h2 hz
    obtain ⟨xs, hx, hc⟩ := RArgX.of l b o hr
    exact ⟨xs, hx, ⟨by rw [RArgX.len l xs hx, h1], fun _ => ⟨b, o, e, hc⟩⟩, RArgX.cells l xs hx⟩
  · have : l = [] := List.length_eq_zero_iff.1 (by omega)
    subst this
    exact ⟨[], rfl, ⟨by simp; omega, fun h => absurd h hz⟩, fun u hu => by cases hu⟩

/-- A row of Attrs as a list of cells, whose lists lie in world w. -/
def RAttX (w : World) : GAttrs → List Value → Prop
  | .nil, xs => xs = []
  | .cons key (.mk k n s t l) r, xs => ∃ A len cap ys, xs = .string key :: .int .i64 k :: .int .u64 n :: .string s :: .int .i64 t.sec :: .int .i64 t.nsec :: .int .i64 t.off :: .slice A len cap :: ys ∧ RS w l A len ∧ RAttX w r ys
theorem RAttX.keep {w w' : World} (hk : Keeps w w') : ∀ (l : GAttrs) (xs : List Value), RAttX w l xs → RAttX w' l xs
  | .nil, _, h => h
  | .cons key (.mk k n s t l) r, xs, h => by
    obtain ⟨A, len, cap, ys, e, hl, hr⟩ := h
    exact ⟨A, len, cap, ys, e, hl.keep hk, RAttX.keep hk r ys hr⟩
theorem RAttX.app {w : World} : ∀ (l m : GAttrs) (xs ys : List Value), RAttX w l xs → RAttX w m ys → RAttX w (l.append m) (xs ++ ys)
  | .nil, _, xs, _, h, k => by cases h; exact k
  | .cons key (.mk k n s t l) r, m, xs, zs, h, hm => by
    obtain ⟨A, len, cap, ys, rfl, hl, hr⟩ := h
    exact ⟨A, len, cap, ys ++ zs, by simp, hl, RAttX.app r m ys zs hr hm⟩
theorem RAttX.len {w : World} : ∀ (l : GAttrs) (xs : List Value), RAttX w l xs → xs.length = l.len * 8
  | .nil, xs, h => by cases h; rfl
  | .cons key (.mk k n s t l) r, xs, h => by
    obtain ⟨A, len, cap, ys, rfl, hl, hr⟩ := h
    have := RAttX.len r ys hr
    simp only [List.length_cons, GAttrs.len]
    omega
theorem RAttX.of {w : World} : ∀ (l : GAttrs) (b o : Nat), RAs w l b o → ∃ xs, RAttX w l xs ∧ ∀ j u, xs[j]? = some u → w.cell? ⟨b, o + j, none⟩ = some u
  | .nil, _, _, _ => ⟨[], rfl, fun j u h => absurd h (by simp)⟩
  | .cons key (.mk k n s t l) r, b, o, h => by
    unfold RAs at h
    obtain ⟨h0, hv, hr⟩ := h
    unfold RVal at hv
    obtain ⟨h1, h2, h3, h4, h5, h6, A, len, cap, h7, hl⟩ := hv
    obtain ⟨ys, hx, hcs⟩ := RAttX.of r b (o + 8) hr
    refine ⟨_, ⟨A, len, cap, ys, rfl, hl, hx⟩, fun j u hj => ?_⟩
    rcases j with _ | _ | _ | _ | _ | _ | _ | _ | j
    · injection hj with hj; subst hj; exact h0
    · injection hj with hj; subst hj; exact h1
    · injection hj with hj; subst hj; exact h2
    · injection hj with hj; subst hj; exact h3
    · injection hj with hj; subst hj; exact h4
    · injection hj with hj; subst hj; exact h5
    · injection hj with hj; subst hj; exact h6
    · injection hj with hj; subst hj; exact h7
    · have hj' : ys[j]? = some u := by simpa using hj
      have := hcs j u hj'
      rwa [show o + 8 + j = o + (j + 8) by omega] at this
theorem RAttX.cells {w : World} : ∀ (l : GAttrs) (xs : List Value), RAttX w l xs → ∀ u ∈ xs, u.oneCell' = true
  | .nil, xs, h, u, hu => by cases h; cases hu
  | .cons key (.mk k n s t l) r, xs, h, u, hu => by
    obtain ⟨A, len, cap, ys, rfl, hl, hr⟩ := h
    simp only [List.mem_cons] at hu
    rcases hu with rfl | rfl | rfl | rfl | rfl | rfl | rfl | rfl | hu
    all_goals first | rfl | exact RAttX.cells r ys hr u hu
theorem src_attrs {w : World} {l : GAttrs} {A : Option Addr} {len : Nat} (h : RS w l A len) : ∃ xs, RAttX w l xs ∧ Src w 8 A len xs ∧ ∀ u ∈ xs, u.oneCell' = true := by
  obtain ⟨h1, h2⟩ := h
  by_cases hz : 0 < len
  · obtain ⟨b, o, e, hr⟩ := h2 hz
    obtain ⟨xs, hx, hc⟩ := RAttX.of l b o hr
    exact ⟨xs, hx, ⟨by rw [RAttX.len l xs hx, h1], fun _ => ⟨b, o, e, hc⟩⟩, RAttX.cells l xs hx⟩
  · have : l = .nil := by cases l with | nil => rfl | cons k v r => simp only [GAttrs.len] at h1; omega
    subst this
    exact ⟨[], rfl, ⟨by simp; omega, fun h => absurd h hz⟩, fun u hu => by cases hu⟩
theorem RAttX.rows {w w' : World} (hk : Keeps w w') : ∀ (l : GAttrs) (xs : List Value) (b o : Nat), RAttX w l xs → (∀ j u, xs[j]? = some u → w'.cell? ⟨b, o + j, none⟩ = some u) → RAs w' l b o
  | .nil, _, _, _, _, _ => by unfold RAs; trivial
  | .cons key (.mk k n s t l) r, xs, b, o, h, hc => by
    obtain ⟨A, len, cap, ys, rfl, hl, hr⟩ := h
    have hl := hl.keep hk
    unfold RAs
    refine ⟨hc 0 _ rfl, ?_, RAttX.rows hk r ys b (o + 8) hr fun j u hj => ?_⟩
    · unfold RVal
      exact ⟨hc 1 _ rfl, hc 2 _ rfl, hc 3 _ rfl, hc 4 _ rfl, hc 5 _ rfl, hc 6 _ rfl, A, len, cap, hc 7 _ rfl, hl.1, hl.2⟩
    · have := hc (j + 8) u (by simpa using hj)
      rwa [show o + 8 + j = o + (j + 8) by omega]
theorem rattrs_of_owns {w w' : World} {base : Nat} {e : TypeId} {l : GAttrs} {xs : List Value} {v : Value} {n : Nat} (hown : w'.ownsRow base e 8 v n xs) (hx : RAttX w l xs) (hk : Keeps w w') : ∃ A cap, v = .slice A n cap ∧ n ≤ cap ∧ RS w' l A n := by
  have hlen := RAttX.len l xs hx
  have h1 := hown.1
  rcases hown.2 with ⟨rfl, rfl⟩ | ⟨g, cap, cur, rfl, hb, hg, hnc, hcm, hcs, htake⟩
  · exact ⟨none, 0, rfl, Nat.le_refl _, by omega, fun h => absurd h (by omega)⟩
  · refine ⟨_, cap, rfl, hnc, by omega, fun h => ⟨g, 0, rfl, RAttX.rows hk l xs g 0 hx fun j u hu => ?_⟩⟩
    have h3 := hown.cells (g := g) rfl j u hu
    have hadd : (⟨g, 0, none⟩ : Addr).add j = ⟨g, 0 + j, none⟩ := by unfold Addr.add; split <;> simp_all
    rwa [hadd] at h3

end Go.Proofs.YtihhgnbgejjijaaGreatDoor.Va
