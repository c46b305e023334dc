/- spec.boolSize, fixedSize, coded: tables of the kinds. PRINTED by wip/genhd.py. -/
import Derived.Lib.Hide
import Derived.Deep.DeepMust
import Derived.Test.YtjjhckbidcdkcaaDoorHa
import Derived.Test.YtjjhckbidcdkcaaDoorMap
namespace Go.Proofs.YtjjhckbidcdkcaaDoor
open Go.RowKit Go.Maps
set_option linter.unusedVariables false

def bsz (k : Int) : Int := if k = 0 then 1 else if k = 1 then 1 else if 18 ≤ k then 1 else 0
def fszL : List (Int × Int) := [(17, 16), (14, 16), (16, 8), (13, 8), (11, 8), (9, 8), (5, 8), (15, 4), (12, 4), (10, 4), (8, 4), (4, 4), (7, 2), (3, 2), (6, 1), (2, 1)]
def codL : List (Int × Int) := [(23, 240), (22, 209), (21, 208), (20, 179), (19, 177), (18, 176), (17, 152), (14, 148), (13, 132), (16, 131), (11, 130), (9, 129), (5, 128), (12, 116), (15, 115), (10, 114), (8, 113), (4, 112), (7, 97), (3, 96), (6, 81), (2, 80), (1, 86), (0, 64)]
def fsz (k : Int) : Int := look fszL k - bsz k
def cod (k : Int) : Int := look codL k
theorem look_in (L : List (Int × Int)) (m : Int) (hm : 0 ≤ m) (h : ∀ p ∈ L, 0 ≤ p.2 ∧ p.2 ≤ m) (k : Int) : 0 ≤ look L k ∧ look L k ≤ m := by
  induction L with
  | nil => exact ⟨Int.le_refl _, hm⟩
  | cons p r ih =>
    unfold look
    split
    · exact h p (List.mem_cons_self ..)
    · exact ih (fun q hq => h q (List.mem_cons_of_mem _ hq))
theorem bsz_in (k : Int) : 0 ≤ bsz k ∧ bsz k ≤ 1 := by unfold bsz; split <;> (try split) <;> (try split) <;> omega
theorem boolSize_calls (w : World) (k : Int) : Calls Tryd.prog 101 #[.int .i64 k] w fun e w' => e = .returned (.int .i64 (bsz k)) ∧ w' = w := by
  by_cases h0 : k = 0
  · subst h0
    go_enter Tryd.func101, Tryd.ntmps101
    go_wp2
    go_ret
    exact ⟨rfl, rfl⟩
  · have e0 : (k == 0) = false := by rw [beq_eq_false_iff_ne]; exact h0
    have e0d : decide (k = 0) = false := decide_eq_false h0
    by_cases h1 : k = 1
    · subst h1
      go_enter Tryd.func101, Tryd.ntmps101
      go_wp2
      go_ret
      exact ⟨rfl, rfl⟩
    · have e1 : (k == 1) = false := by rw [beq_eq_false_iff_ne]; exact h1
      have e1d : decide (k = 1) = false := decide_eq_false h1
      by_cases h2 : 18 ≤ k
      · have e2 : decide (18 ≤ k) = true := decide_eq_true h2
        have e : bsz k = 1 := by unfold bsz; rw [if_neg h0, if_neg h1, if_pos h2]
        rw [e]
        clear e
        go_enter Tryd.func101, Tryd.ntmps101
        go_wp2
        go_ret
        exact ⟨rfl, rfl⟩
      · have e2 : decide (18 ≤ k) = false := decide_eq_false h2
        have e : bsz k = 0 := by unfold bsz; rw [if_neg h0, if_neg h1, if_neg h2]
        rw [e]
        clear e
        go_enter Tryd.func101, Tryd.ntmps101
        go_wp2
        go_ret
        exact ⟨rfl, rfl⟩
set_option maxHeartbeats 4000000 in
set_option maxRecDepth 100000 in
theorem coded_calls (w : World) (k : Int) (hk : -9223372036854775808 ≤ k ∧ k ≤ 9223372036854775807) : Calls Tryd.prog 87 #[.int .i64 k] w fun e w' => e = .returned (.int .i64 (cod k)) ∧ Below w.heap.size w w' := by
  unfold cod
  obtain ⟨R, hR⟩ : ∃ R, look codL k = R := ⟨_, rfl⟩
  rw [hR]
  have HR := Lib.hid hR
  have HK := Lib.hid hk
  clear hR hk
  go_enter Tryd.func87, Tryd.ntmps87
  go_wp2_with (first
    | ((with_reducible refine gate_makeMap rfl ?_)
       go_must (
         (refine wpList_makeMap_i (w0 := _) rfl 158 rfl (Below.refl _ _) (Nat.le_refl _) ?_)
         intro w1 mb HM))
    | ((with_reducible refine gate_insert rfl ?_)
       go_must (
         (have HM0 := HM)
         clear HM
         refine wpList_insert_i rfl _ _ _ 158 rfl Tryd.underlying158 _ _ rfl rfl rfl HM0 (by simp only [List.length_cons, List.length_nil]; omega) (by omega) (by omega) (by omega) (by omega) ?_
         intro w1 HM
         clear HM0))
    | ((with_reducible refine gate_lookup rfl ?_)
       go_must (
         (have HM0 := HM)
         clear HM
         refine wpList_lookup_i rfl _ _ 158 rfl Tryd.underlying158 _ rfl rfl HM0 HK.out.1 HK.out.2 R HR.out ?_
         obtain ⟨-, hbel, -, -⟩ := HM0
         have HBEL := Lib.hid hbel
         clear hbel)))
  go_ret
  exact ⟨rfl, HBEL.out⟩
end Go.Proofs.YtjjhckbidcdkcaaDoor
