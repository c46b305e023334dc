/- AMQP: the walk of FnWriteTimestamp. PRINTED by wip/genve.py. -/
import Derived.Test.YtephkecfpepmpaaGreatDoorVb
import Derived.Test.YtephkecfpepmpaaGreatDoorVd
import Derived.Test.YtephkecfpepmpaaGreatDoorBe
namespace Go.Proofs.YtephkecfpepmpaaGreatDoor
open Go.RowKit Go.Maps
set_option linter.unusedVariables false

/-- A call wrote n bytes of its own, and says so. -/
def ToldN (w : World) (n : Nat) (l : List Int) (e : Ending) (w' : World) : Prop :=
  ∃ (g c : Nat), e = .returned (.tuple #[.slice (some ⟨g, 0, none⟩) n c, .bool true]) ∧ n ≤ c ∧ c ≤ maxLen ∧ Reads w' w'.heap.size 1 (some ⟨g, 0, none⟩) n (bs l) ∧ Below w.heap.size w w'
theorem told_n {w w' : World} {n : Nat} {l : List Int} {e : Ending} (h : Told w l e w') (hn : l.length = n) : ToldN w n l e w' := by
  obtain ⟨g, cs, rfl, hb, hc, hm, ht, _, hbel⟩ := h
  subst hn
  refine ⟨g, cs.length, rfl, hc, hm, ?_, hbel⟩
  have h := (hb.reads 0 l.length (by omega)).more (show g + 1 ≤ w'.heap.size from hb.lt)
  rwa [List.drop_zero, ht] at h

theorem wrote_ts (w : World) (B c : Nat) (A : Option Addr) (x : Int) (h0 : 0 ≤ x) (h1 : x ≤ 18446744073709551615) (h : Reads w B 1 A 9 (bs (131 :: be x 8))) (hB : B ≤ w.heap.size) (hc : 9 ≤ c) (hm : c ≤ maxLen) :
    Calls Tryz.prog 7 #[.slice A 9 c, .bool true, vl 16 x ByteArray.empty] w fun e w' => e = .returned (.bool true) ∧ Below w.heap.size w w' := by
  have hl : (be x 8).length = 8 := be_length x 8
  have hv : valBE ((be x 8).take 8) = x := by
    rw [List.take_of_length_le (by omega), valBE_be]
    simp only [Int.reducePow]
    omega
  have hd : (be x 8).drop 8 = [] := List.drop_eq_nil_of_le (by omega)
  have hw := wrote_of w B c A 131 16 x ByteArray.empty (be x 8) (by rw [hl]; exact h) hB (by omega) (by omega) (by rw [hl]; omega) hm (fun W A c h2 hB2 hc2 hm2 => by
    have ht := take_num W B c 8 A 131 16 8 (be x 8) h2 hB2 (isB_be x 8) (by omega) (by omega) hc2 hm2 (by rfl) (by omega) (by omega) (by omega) (by omega) (by omega) (by omega)
    rw [hv, hd] at ht
    exact ht)
  rw [hl] at hw
  exact hw

end Go.Proofs.YtephkecfpepmpaaGreatDoor
