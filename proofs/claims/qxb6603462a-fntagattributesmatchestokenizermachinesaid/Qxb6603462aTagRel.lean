import Derived.Test.Qxb6603462aTagBox
import Derived.Test.Qxb6603462aPlainCome
import Derived.Deep.CutBlock
import Derived.Deep.DeepCutAuto
namespace Go.Proofs.Qxb6603462a.TagModel
open Go.RowKit Go.Proofs.Qxb6603462a.Use

/-- How many rounds a state may take without a byte. -/
def rk (s : Int) : Nat := if s = 2 then 2 else if s = 1 then 0 else if s = 5 then 0 else 1

/-- What holds at every round's head. -/
def Rel (f : Nat → Int) (n : Nat) (total : List At) (w : World) (g : Nat) (v qv sv r t : Value) (wr : World) : Prop :=
  ∃ (s : Int) (x : At) (q : Int) (p : Nat) (L : List At), qv = .int .u8 q ∧ sv = .int .i64 s ∧ r = .int .i64 (back f p) ∧ t = .int .i64 p ∧ g = 3 * (n - p) + rk s ∧ MSt w.heap.size w wr x v L ∧ (0 ≤ s ∧ s ≤ 6) ∧ p ≤ n ∧ ((s ≤ 1 → L.length ≤ p) ∧ (2 ≤ s → L.length + 1 ≤ p)) ∧ Hid (L ++ come f n s x q p = total)

/-- The loops of a function's text, the outermost ones, in order. -/
def loops : Code → List Code
  | .loop c => [c]
  | .seq a b => loops a ++ loops b
  | .block _ c => loops c
  | .scope c => loops c
  | .cond _ a b => loops a ++ loops b
  | _ => []
def loopAt (o : Option Code) (k : Nat) : Code := ((o.map loops).getD []).getD k .skip

end Go.Proofs.Qxb6603462a.TagModel
