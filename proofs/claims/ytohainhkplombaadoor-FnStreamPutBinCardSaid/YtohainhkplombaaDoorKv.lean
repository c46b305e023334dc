/- impl.written: a Writer over a Text, a value behind the other, Flush: what the Text holds. PRINTED by wip/genz.py. -/
import Derived.Test.YtohainhkplombaaDoorKy
import Derived.Test.YtohainhkplombaaDoorKz
namespace Go.Proofs.YtohainhkplombaaDoor
open Go.RowKit
set_option linter.unusedVariables false

theorem Flush_calls (w0 W : World) (B gw gb gt : Nat) (cs : List Value) (v : Value) (out pend : List Int) (h : WP w0 W B gw gb gt cs v out pend) (hn : out.length + pend.length ≤ 1099511627776) :
    Calls Tryd.prog 14 #[.pointer (some ⟨gw, 0, none⟩)] W fun e W' => e = .returned .nilIface ∧ ∃ v', WP w0 W' B gw gb gt cs v' (out ++ pend) [] := by
  have HW := Lib.hid h
  clear h
  go_enter Tryd.func14, Tryd.ntmps14
  go_wp2_with (
    (go_at_call 23)
    go_must (
      (refine (flush_calls w0 W B gw gb gt cs v out pend HW.out hn).mono ?_)
      rintro e W1 ⟨rfl, hr⟩
      have HR := Lib.hid hr
      clear hr))
  go_ret
  exact ⟨rfl, HR.out⟩

/-- Where a loop over the values stands. -/
def WL (w0 : World) (B gw gb gt N : Nat) (tot : List Int) (W : World) : Prop := ∃ cs v out pend, cs.length = N ∧ WP w0 W B gw gb gt cs v out pend ∧ out ++ pend = tot
/-- So many bytes were written, in all: they lie in a row of their own. -/
def Wrt (w0 : World) (B : Nat) (tot : List Int) (e : Ending) (W' : World) : Prop :=
  ∃ A c, e = .returned (.tuple #[.slice A tot.length c, .bool true]) ∧ Reads W' W'.heap.size 1 A tot.length (bs tot) ∧ tot.length ≤ c ∧ c ≤ maxLen ∧ Below B w0 W'
theorem flatMap_take_succ (l : List Int) (enc : Int → List Int) (k : Nat) (h : k < l.length) : (l.take (k + 1)).flatMap enc = (l.take k).flatMap enc ++ enc (l.getD k 0) := by
  rw [List.take_succ_eq_append_getElem h, List.flatMap_append, List.getD_eq_getElem?_getD, List.getElem?_eq_getElem h]
  simp
theorem flatMap_le (l : List Int) (enc : Int → List Int) (m : Nat) (h : ∀ x ∈ l, (enc x).length ≤ m) : (l.flatMap enc).length ≤ m * l.length := by
  induction l with
  | nil => simp
  | cons x xs ih =>
    have h1 := h x (by simp)
    have h2 := ih (fun y hy => h y (by simp [hy]))
    simp only [List.flatMap_cons, List.length_append, List.length_cons, Nat.mul_succ]
    omega
theorem encU_len (u : Int) : (encU u).length ≤ 9 := by
  unfold encU
  repeat' split
  all_goals simp [be_length]
theorem encI_len (u : Int) : (encI u).length ≤ 9 := by
  unfold encI
  repeat' split
  all_goals simp [be_length]
theorem Reads.num {w : World} {B n : Nat} {A : Option Addr} {k : IntKind} {l : List Int} (h : Reads w B 1 A n (l.map (Value.int k))) {j : Nat} (hj : j < n) : ∃ ad, A = some ad ∧ ad.block < B ∧ w.cell? (ad.add j) = some (.int k (l.getD j 0)) := by
  obtain ⟨ad, v, hA, hb, hv, hc⟩ := h.at_ hj
  have hl : l.length = n := by have := h.1; simp at this; omega
  refine ⟨ad, hA, hb, hc.trans ?_⟩
  rw [← hv]
  simp [List.getElem?_eq_getElem (show j < l.length by omega), List.getD_eq_getElem?_getD]

end Go.Proofs.YtohainhkplombaaDoor
