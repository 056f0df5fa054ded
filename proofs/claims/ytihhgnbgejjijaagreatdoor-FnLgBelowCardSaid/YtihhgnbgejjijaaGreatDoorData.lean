/- Plain data: the values of package impl and of package slog as Lean data, and what the Go functions over them compute. No program in sight. -/
import Derived.Below
namespace Go.Proofs.YtihhgnbgejjijaaGreatDoor
set_option linter.unusedVariables false
set_option linter.unusedSimpArgs false
open Go

structure GTime where
  sec : Int
  nsec : Int
  off : Int
  deriving DecidableEq

/- A value of package impl (Val) and a list of attributes (Attr). -/
mutual
inductive GVal where
  | mk (kind : Int) (n : Int) (s : ByteArray) (t : GTime) (l : GAttrs)
inductive GAttrs where
  | nil
  | cons (key : ByteArray) (v : GVal) (rest : GAttrs)
end

namespace GVal
def kind : GVal → Int | .mk k _ _ _ _ => k
def n : GVal → Int | .mk _ n _ _ _ => n
def s : GVal → ByteArray | .mk _ _ s _ _ => s
def t : GVal → GTime | .mk _ _ _ t _ => t
def l : GVal → GAttrs | .mk _ _ _ _ l => l
end GVal

def GTime.zero : GTime := ⟨0, 0, 0⟩
def GVal.zero : GVal := .mk 0 0 ByteArray.empty GTime.zero .nil

namespace GAttrs
def len : GAttrs → Nat
  | .nil => 0
  | .cons _ _ r => r.len + 1
/-- The key of the first attribute; empty where there is none. -/
def head : GAttrs → ByteArray
  | .nil => ByteArray.empty
  | .cons k _ _ => k
/-- The value of the first attribute; the zero one where there is none. -/
def headVal : GAttrs → GVal
  | .nil => GVal.zero
  | .cons _ v _ => v
def snoc : GAttrs → ByteArray → GVal → GAttrs
  | .nil, k, v => .cons k v .nil
  | .cons k' v' r, k, v => .cons k' v' (r.snoc k v)
def append : GAttrs → GAttrs → GAttrs
  | .nil, m => m
  | .cons k v r, m => .cons k v (r.append m)
end GAttrs

mutual
/-- How many values a value holds, itself too. -/
def GVal.size : GVal → Nat
  | .mk _ _ _ _ l => GAttrs.size l + 1
def GAttrs.size : GAttrs → Nat
  | .nil => 0
  | .cons _ v r => GVal.size v + GAttrs.size r
end

mutual
/-- Every number fits its kind, every text is one that memory bears. -/
def GVal.wf : GVal → Prop
  | .mk k n s t l => (-9223372036854775808 ≤ k ∧ k ≤ 9223372036854775807) ∧ (0 ≤ n ∧ n ≤ 18446744073709551615) ∧ s.size ≤ 140737488355328 ∧
      (-9223372036854775808 ≤ t.sec ∧ t.sec ≤ 9223372036854775807) ∧ (-9223372036854775808 ≤ t.nsec ∧ t.nsec ≤ 9223372036854775807) ∧ (-9223372036854775808 ≤ t.off ∧ t.off ≤ 9223372036854775807) ∧
      l.len ≤ 140737488355328 ∧ GAttrs.wf l
def GAttrs.wf : GAttrs → Prop
  | .nil => True
  | .cons key v r => key.size ≤ 140737488355328 ∧ GVal.wf v ∧ GAttrs.wf r
end

/- What package slog holds of a Go value of any type. -/
inductive GAny where
  | nil
  | err (s : ByteArray)
  | stringer (s : ByteArray)
  | bytes (s : ByteArray)
  | text (s : ByteArray)
  | fails (s : ByteArray)
  | number (n : Int)
  | level (n : Int)
  | kind (n : Int)
  | appender (s t : ByteArray)
  | lacks (s : ByteArray)
  | panics (s : ByteArray)
  | pointer
  | source (f s : ByteArray) (n : Int)
  | nosource
  | both (s t : ByteArray)
  | made (s : ByteArray)

/- A value of package slog (Value), and attributes (Attr). -/
mutual
inductive SVal where
  | num (kind : Int) (n : Int)
  | str (s : ByteArray)
  | time (t : GTime)
  | group (l : SAttrs)
  | any (x : GAny)
  | valuer (left : Int) (v : SVal) (calls : Option Addr)
  | throws (s : ByteArray) (calls : Option Addr)
inductive SAttrs where
  | nil
  | cons (key : ByteArray) (v : SVal) (rest : SAttrs)
end

def SVal.kind : SVal → Int
  | .num k _ => k
  | .str _ => 5
  | .time _ => 6
  | .group _ => 8
  | .any _ => 0
  | .valuer _ _ _ => 9
  | .throws _ _ => 9

namespace SAttrs
def len : SAttrs → Nat
  | .nil => 0
  | .cons _ _ r => r.len + 1
end SAttrs

def SVal.isEmptyGroup : SVal → Bool
  | .group .nil => true
  | _ => false

namespace SAttrs
/-- How many of the attributes are groups without attributes. -/
def empties : SAttrs → Nat
  | .nil => 0
  | .cons _ v r => (if v.isEmptyGroup then 1 else 0) + r.empties
/-- The others. -/
def full : SAttrs → SAttrs
  | .nil => .nil
  | .cons k v r => if v.isEmptyGroup then r.full else .cons k v r.full
end SAttrs

/-- anyOf: the Go value of a Val of the kind Any. -/
def anyOf (n : Int) (s : ByteArray) (t : GTime) (l : GAttrs) : GAny :=
  if n = 1 then .err s
  else if n = 2 then .stringer s
  else if n = 3 then .bytes s
  else if n = 4 then .text s
  else if n = 5 then .fails s
  else if n = 6 then .number t.sec
  else if n = 7 then .level t.sec
  else if n = 8 then .kind t.sec
  else if n = 9 then .appender s s
  else if n = 10 then .lacks s
  else if n = 11 then .panics s
  else if n = 12 then .pointer
  else if n = 13 then .source l.head s t.sec
  else if n = 14 then .nosource
  else if n = 15 then .both s l.head
  else .nil

mutual
/-- valueOf: what the constructor makes of a Val. -/
def valueOf (c : Option Addr) : GVal → SVal
  | .mk k n s t l =>
    if k = 1 then .num 1 (n % 2)
    else if k = 2 then .num 2 n
    else if k = 3 then .num 3 n
    else if k = 4 then .num 4 n
    else if k = 5 then .str s
    else if k = 6 then .time t
    else if k = 7 then .num 7 n
    else if k = 8 then .group (attrsOf c l).full
    else if k = 9 then
      if s.size = 0 then .valuer n (headOf c l) c else .throws s c
    else .any (anyOf n s t l)
/-- The value of the first attribute, made; the zero Value where there is none. -/
def headOf (c : Option Addr) : GAttrs → SVal
  | .nil => .any .nil
  | .cons _ v _ => valueOf c v
def attrsOf (c : Option Addr) : GAttrs → SAttrs
  | .nil => .nil
  | .cons k v r => .cons k (valueOf c v) (attrsOf c r)
end

def extraTold (s : ByteArray) : GAttrs := if s.size = 0 then .nil else .cons s GVal.zero .nil

/-- told, of a Go value of any type. -/
def toldAny : GAny → GVal
  | .nil => GVal.zero
  | .err s => .mk 0 1 s .zero .nil
  | .stringer s => .mk 0 2 s .zero .nil
  | .bytes s => .mk 0 3 s .zero .nil
  | .text s => .mk 0 4 s .zero .nil
  | .fails s => .mk 0 5 s .zero .nil
  | .number n => .mk 0 6 ByteArray.empty ⟨n, 0, 0⟩ .nil
  | .level n => .mk 0 7 ByteArray.empty ⟨n, 0, 0⟩ .nil
  | .kind n => .mk 0 8 ByteArray.empty ⟨n, 0, 0⟩ .nil
  | .appender s _ => .mk 0 9 s .zero .nil
  | .lacks s => .mk 0 10 s .zero .nil
  | .panics s => .mk 0 11 s .zero .nil
  | .pointer => .mk 0 12 ByteArray.empty .zero .nil
  | .source f s n => .mk 0 13 s ⟨n, 0, 0⟩ (extraTold f)
  | .nosource => .mk 0 14 ByteArray.empty .zero .nil
  | .both s t => .mk 0 15 s .zero (extraTold t)
  | .made s => .mk 0 1 s .zero .nil

mutual
/-- told: a value, by its Kind and the accessor of that. -/
def told : SVal → GVal
  | .num k n => if k = 1 then (if n = 1 then .mk 1 1 ByteArray.empty .zero .nil else .mk 1 0 ByteArray.empty .zero .nil) else .mk k n ByteArray.empty .zero .nil
  | .str s => .mk 5 0 s .zero .nil
  | .time t => .mk 6 0 ByteArray.empty t .nil
  | .group l => .mk 8 0 ByteArray.empty .zero (attrsTold l)
  | .any x => toldAny x
  | .valuer n v _ => .mk 9 n ByteArray.empty .zero (.cons ByteArray.empty (told v) .nil)
  | .throws s _ => .mk 9 0 s .zero .nil
def attrsTold : SAttrs → GAttrs
  | .nil => .nil
  | .cons k v r => .cons k (told v) (attrsTold r)
end

/- THE REFERENCE. -/

def timeGood (t : GTime) : Bool := decide (0 ≤ t.nsec) && decide (t.nsec ≤ 999999999) && decide (-86400 < t.off) && decide (t.off < 86400) && decide (t.off.tmod 60 = 0)

mutual
/-- spec.VaLeft. -/
def vaLeft : GVal → Int → Int → Int
  | .mk k n s t l, deep, left =>
    if left - (1 + s.size) < 0 ∨ deep < 1 ∨ k < 0 ∨ 9 < k then -1
    else if k = 0 ∧ 16 ≤ n then -1
    else if k = 1 ∧ 1 < n then -1
    else if k = 6 ∧ timeGood t = false then -1
    else if k = 9 ∧ n < 1 then -1
    else vaLeftAll l (deep - 1) (left - (1 + s.size))
/-- spec.VaLeftAll. -/
def vaLeftAll : GAttrs → Int → Int → Int
  | .nil, _, left => left
  | .cons key v r, deep, left =>
    if left - key.size < 0 then -1
    else if vaLeft v deep (left - key.size) < 0 then -1
    else vaLeftAll r deep (vaLeft v deep (left - key.size))
end

/-- Is the value a group with attributes, or no group? -/
def GVal.stays : GVal → Bool
  | .mk k _ _ _ l => decide (k ≠ 8) || decide (0 < l.len)

mutual
/-- spec.VaTidy. -/
def vaTidy : GVal → GVal
  | .mk k n s t l =>
    if k = 0 then
      if n = 6 ∨ n = 7 ∨ n = 8 then .mk 0 n ByteArray.empty ⟨t.sec, 0, 0⟩ .nil
      else if n = 13 then .mk 0 n s ⟨t.sec, 0, 0⟩ (.cons l.head GVal.zero .nil)
      else if n = 15 then .mk 0 n s .zero (.cons l.head GVal.zero .nil)
      else if n = 0 ∨ n = 12 ∨ n = 14 then .mk 0 n ByteArray.empty .zero .nil
      else .mk 0 n s .zero .nil
    else if k = 5 then .mk k 0 s .zero .nil
    else if k = 6 then .mk k 0 ByteArray.empty t .nil
    else if k = 8 then .mk k 0 ByteArray.empty .zero (vaTidyAll l)
    else if k = 9 then .mk k n s .zero (if s.size = 0 then .cons ByteArray.empty (vaEnd l) .nil else .nil)
    else .mk k n ByteArray.empty .zero .nil
/-- spec.VaEnd, of the list of attributes. -/
def vaEnd : GAttrs → GVal
  | .nil => GVal.zero
  | .cons _ v _ => vaTidy v
/-- spec.VaTidyAll. -/
def vaTidyAll : GAttrs → GAttrs
  | .nil => .nil
  | .cons key v r => if (vaTidy v).stays then .cons key (vaTidy v) (vaTidyAll r) else vaTidyAll r
end

mutual
/-- spec.VaSame. -/
def vaSame : GVal → GVal → Bool
  | .mk k n s t l, .mk k' n' s' t' l' =>
    if k ≠ k' then false
    else if k' = 0 then
      if n ≠ n' then false
      else if n' = 0 ∨ n' = 12 ∨ n' = 14 then true
      else if n' = 6 ∨ n' = 7 ∨ n' = 8 then decide (t.sec = t'.sec)
      else if n' = 13 then decide (s = s') && decide (t.sec = t'.sec) && decide (l.head = l'.head)
      else if n' = 15 then decide (s = s') && decide (l.head = l'.head)
      else decide (s = s')
    else if k' = 5 then decide (s = s')
    else if k' = 6 then decide (t = t')
    else if k' = 8 then vaSameAll l l'
    else if k' = 9 then
      if s ≠ s' then false
      else decide (s'.size ≠ 0) || (decide (n = n') && vaSameEnd l l')
    else decide (n = n')
/-- spec.vaSameEnd. -/
def vaSameEnd : GAttrs → GAttrs → Bool
  | .nil, .nil => vaSameZ GVal.zero
  | .nil, .cons _ v' _ => vaSameZ v'
  | .cons _ v _, .nil => vaSameZ' v
  | .cons _ v _, .cons _ v' _ => vaSame v v'
/-- The zero Val against another one. -/
def vaSameZ : GVal → Bool
  | .mk k n _ _ _ => decide (k = 0) && decide (n = 0)
def vaSameZ' : GVal → Bool
  | .mk k n _ _ _ => decide (k = 0) && decide (n = 0)
/-- spec.VaSameAll. -/
def vaSameAll : GAttrs → GAttrs → Bool
  | .nil, .nil => true
  | .cons k v r, .cons k' v' r' => decide (k = k') && vaSame v v' && vaSameAll r r'
  | _, _ => false
end

end Go.Proofs.YtihhgnbgejjijaaGreatDoor
