/- AMQP: times; a timestamp is written. PRINTED by wip/genb.py. -/
import Derived.Test.YtephkecfpepmpaaGreatDoorVa
namespace Go.Proofs.YtephkecfpepmpaaGreatDoor
open Go.RowKit
set_option linter.unusedVariables false

/-- A result that lies in memory. -/
theorem results_cell0 {P : Program} {fn : Func} {p : Tmp} {ty : TypeId} (h : fn.results = #[.cell p ty]) {tmps : Array Value} {w : World} {g : Nat} {cs : List Value} (d : TypeDesc)
    (hp : tmps.getD p undef = .pointer (some ⟨g, 0, none⟩)) (hg : Blk w g ty cs) (hu : P.underlying ty = some d) (hd : (match d with | .struct _ | .array _ _ => true | _ => false) = true) (hi : (P.info? ty).map (·.size) = some cs.length) :
    (results fn tmps).run P w = .ok (.agg cs.toArray) w := by
  have hp' : tmps[p]?.getD undef = .pointer (some ⟨g, 0, none⟩) := by simpa using hp
  simp [results, h, hp', asAddr, run_loadVar_row w g ty ty cs.toArray (0, 0) d hg hu hd (by simpa using hi)]

theorem tdiv_small (n : Int) (h0 : -1000000000 < n) (h1 : n < 0) : n.tdiv 1000000000 = 0 := by
  obtain ⟨m, rfl⟩ : ∃ m : Int, n = -m := ⟨-n, by omega⟩
  rw [Int.neg_tdiv, Int.tdiv_eq_ediv_of_nonneg (by omega)]
  omega
theorem tdiv_neg (n k : Int) (h1 : n < 0) : n.tdiv k = -((-n) / k) := by
  obtain ⟨m, rfl⟩ : ∃ m : Int, n = -m := ⟨-n, by omega⟩
  rw [Int.neg_tdiv, Int.tdiv_eq_ediv_of_nonneg (by omega), Int.neg_neg]
theorem tmod_neg (n k : Int) (h1 : n < 0) : n.tmod k = -((-n) % k) := by
  obtain ⟨m, rfl⟩ : ∃ m : Int, n = -m := ⟨-n, by omega⟩
  rw [Int.neg_tmod, Int.tmod_eq_emod_of_nonneg (by omega), Int.neg_neg]





theorem u64_wrap_range (x : Int) : 0 ≤ IntKind.u64.wrap x ∧ IntKind.u64.wrap x ≤ 18446744073709551615 := by rw [IntKind.wrap_u64]; omega



/-- A call wrote bytes of its own, and says so. -/
def Told (w : World) (l : List Int) (e : Ending) (w' : World) : Prop :=
  ∃ g cs, e = .returned (.tuple #[.slice (some ⟨g, 0, none⟩) l.length cs.length, .bool true]) ∧ Blk w' g 5 cs ∧ l.length ≤ cs.length ∧ cs.length ≤ maxLen ∧ cs.take l.length = bs l ∧ w.heap.size ≤ g ∧ Below w.heap.size w w'
/-- The two cells of the results, and the Buffer behind them. -/
theorem two_cells {w W W' : World} {t1 t2 : TypeId} {a b : Value} (hb : Below (w.heap.size + 1 + 1) ((w.alloc (.cells #[a] t1)).alloc (.cells #[b] t2)) W') :
    Blk W' w.heap.size t1 [a] ∧ Blk W' (w.heap.size + 1) t2 [b] := by
  refine ⟨((Blk.new w t1 [a]).alloc _).below hb (by omega), ?_⟩
  have := Blk.new (w.alloc (.cells #[a] t1)) t2 [b]
  rw [show (w.alloc (.cells #[a] t1)).heap.size = w.heap.size + 1 by simp] at this
  exact this.below hb (by omega)

end Go.Proofs.YtephkecfpepmpaaGreatDoor
