/- impl.Equal of any two values. -/
import Derived.Test.YtcgdnjigocknbaaDoorIEq
import Derived.Test.YtcgdnjigocknbaaDoorPlain
namespace Go.Proofs.YtcgdnjigocknbaaDoor.Va
set_option linter.unusedVariables false
set_option linter.unusedSimpArgs false
open Go Go.RowKit

/-- What package slog says of two Vals. -/
def cmp (da db : GVal) : Bool × Bool := sEqual (valueOf none da) (valueOf none db)
theorem implEqV (da db : GVal) (sza : da.size ≤ 70000) (szb : db.size ≤ 70000) (wa : da.wf) (wb : db.wf) (w : World) (A A' : Option Addr) (len cap len' cap' : Nat) (ha : RS w da.l A len) (hb : RS w db.l A' len') :
    Calls Tryd.prog 11 #[vVal da A len cap, vVal db A' len' cap'] w (PairEnd (cmp da db) w) :=
  implEq_any da db _ _ _ w A A' len cap len' cap' (fun wy hy => valueOf_any none da wy A len cap sza wa (ha.keep hy)) (fun wy hy => valueOf_any none db wy A' len' cap' szb wb (hb.keep hy))
    (fun wy x y x' y' h => by
      obtain ⟨P, P', hd, h1, h2⟩ := h
      exact equal_any _ _ P P' wy x y x' y' hd (quiet_of da wa) (quiet_of db wb) h1 h2)

end Go.Proofs.YtcgdnjigocknbaaDoor.Va
