/- spec.valueFits, a theorem a class of kinds. PRINTED by wip/genhp.py. -/
import Derived.Deep.Cut
import Derived.Test.YtjjhckbidcdkcaaDoorHo
namespace Go.Proofs.YtjjhckbidcdkcaaDoor
open Go.RowKit
set_option linter.unusedVariables false

/-- The fields of a value that fits. -/
def Fld (k u : Int) (s : ByteArray) (n0 n1 : Nat) : Prop := 0 ≤ k ∧ k < 24 ∧ ((k = 21 ∨ k = 22 ∨ k = 23) ∨ n0 = 0) ∧ ((17 ≤ k ∧ k ≤ 20 ∨ k = 14) ∨ s = ByteArray.empty) ∧ ((1 ≤ k ∧ k ≤ 16 ∧ k ≠ 14) ∨ u = 0) ∧ n1 ≤ 1 ∧ n0 ≤ 1000 ∧ s.size ≤ 131072
/-- A value that fits, and all in it. -/
def FitsV : VT → Prop
  | .nil => False
  | .mk k u s o n f => (Fld k u s (n false) (n true) ∧ CFt (.mk k u s o n f)) ∧ ∀ b i, i < n b → FitsV (f b i)
/-- What a call of it tells. -/
def VPost (P : Prop) (W : World) (e : Ending) (W' : World) : Prop := ∃ b : Bool, e = .returned (.bool b) ∧ (b = true → P) ∧ Below W.heap.size W W'
/-- The contract. -/
def VFc (B : Nat) (T : VT) : Prop := ∀ (W : World) (A : Bool → Option Addr) (c : Bool → Nat) (lv : Int), TV W B T A c → B ≤ W.heap.size → UT B W → 0 ≤ lv → lv ≤ 6 →
    Calls Tryd.prog 63 #[vV T A c, .int .i64 lv] W (VPost (FitsV T) W)
end Go.Proofs.YtjjhckbidcdkcaaDoor
