/- AMQP: the walk of FnWriteTimestamp. PRINTED by wip/genve.py. -/
import Derived.Test.YtpkfmcnbodnpeaaDoorVb
import Derived.Test.YtpkfmcnbodnpeaaDoorVd
import Derived.Test.YtpkfmcnbodnpeaaDoorBe
namespace Go.Proofs.YtpkfmcnbodnpeaaDoor
open Go.RowKit Go.Maps
set_option linter.unusedVariables false

/-- A call wrote n bytes of its own, and says so. -/
def ToldN (w : World) (n : Nat) (l : List Int) (e : Ending) (w' : World) : Prop :=
  ∃ (g c : Nat), e = .returned (.tuple #[.slice (some ⟨g, 0, none⟩) n c, .bool true]) ∧ n ≤ c ∧ c ≤ maxLen ∧ Reads w' w'.heap.size 1 (some ⟨g, 0, none⟩) n (bs l) ∧ Below w.heap.size w w'
theorem told_n {w w' : World} {n : Nat} {l : List Int} {e : Ending} (h : Told w l e w') (hn : l.length = n) : ToldN w n l e w' := by
  obtain ⟨g, cs, rfl, hb, hc, hm, ht, _, hbel⟩ := h
  subst hn
  refine ⟨g, cs.length, rfl, hc, hm, ?_, hbel⟩
  have h := (hb.reads 0 l.length (by omega)).more (show g + 1 ≤ w'.heap.size from hb.lt)
  rwa [List.drop_zero, ht] at h

theorem wrote_ts (w : World) (B c : Nat) (A : Option Addr) (x : Int) (h0 : 0 ≤ x) (h1 : x ≤ 18446744073709551615) (h : Reads w B 1 A 9 (bs (131 :: be x 8))) (hB : B ≤ w.heap.size) (hc : 9 ≤ c) (hm : c ≤ maxLen) :
    Calls Tryd.prog 14 #[.slice A 9 c, .bool true, vl 16 x ByteArray.empty] w fun e w' => e = .returned (.bool true) ∧ Below w.heap.size w w' := by
  have hl : (be x 8).length = 8 := be_length x 8
  have hv : valBE ((be x 8).take 8) = x := by
    rw [List.take_of_length_le (by omega), valBE_be]
    simp only [Int.reducePow]
    omega
  have hd : (be x 8).drop 8 = [] := List.drop_eq_nil_of_le (by omega)
  have hw := wrote_of w B c A 131 16 x ByteArray.empty (be x 8) (by rw [hl]; exact h) hB (by omega) (by omega) (by rw [hl]; omega) hm (fun W A c h2 hB2 hc2 hm2 => by
    have ht := take_num W B c 8 A 131 16 8 (be x 8) h2 hB2 (isB_be x 8) (by omega) (by omega) hc2 hm2 (by rfl) (by omega) (by omega) (by omega) (by omega) (by omega) (by omega)
    rw [hv, hd] at ht
    exact ht)
  rw [hl] at hw
  exact hw

set_option maxHeartbeats 2000000 in
set_option maxRecDepth 100000 in
theorem FnWriteTimestamp_walk (w : World) (v : Int) (h0 : -9223372036854775808 ≤ v) (h1 : v ≤ 9223372036854775807) :
    Calls Tryd.prog 4 #[.int .i64 v] w fun e w' => e = .returned (.bool true) ∧ Below w.heap.size w w' := by
  have hr := u64_wrap_range v
  obtain ⟨hr0, hr1⟩ := hr
  go_enter Tryd.func4, Tryd.ntmps4
  go_wp2_with (first
    | (go_at_call 15
       go_must (first
        | ((refine ((implWriteTimestamp_calls w2 v h0 h1).mono fun e w' h => told_n h (n := 9) (by simp [be_length])).mono ?_)
           rintro e w3 ⟨g3, cs3, rfl, hc3, hm3, hr3, hb3⟩
           have HR3 := Lib.hid hr3
           have HB3 := Lib.hid hb3
           clear hr3 hb3)
        | ((refine ((implWriteTimestamp_calls w 5 (by omega) (by omega)).mono fun e w' h => told_n h (n := 9) (by simp [be_length])).mono ?_)
           rintro e w1 ⟨g1, cs1, rfl, hc1, hm1, hr1', hb1⟩
           have HR1 := Lib.hid hr1'
           have HB1 := Lib.hid hb1
           clear hr1' hb1)))
    | (go_at_call 14
       go_must (first
        | ((refine (wrote_ts w3 w3.heap.size _ _ (IntKind.u64.wrap v) hr0 hr1 HR3.out (Nat.le_refl _) hc3 hm3).mono ?_)
           rintro e w4 ⟨rfl, hb4⟩
           have HB4 := Lib.hid hb4
           clear hb4)
        | ((refine (wrote_ts w1 w1.heap.size _ _ 5 (by omega) (by omega) HR1.out (Nat.le_refl _) hc1 hm1).mono ?_)
           rintro e w2 ⟨rfl, hb2⟩
           have HB2 := Lib.hid hb2
           clear hb2))))
  go_ret
  have s1 := HB1.out.size
  have s2 := HB2.out.size
  have s3 := HB3.out.size
  exact ⟨rfl, ((HB1.out.trans (HB2.out.mono s1)).trans (HB3.out.mono (by omega))).trans (HB4.out.mono (by omega))⟩
end Go.Proofs.YtpkfmcnbodnpeaaDoor
