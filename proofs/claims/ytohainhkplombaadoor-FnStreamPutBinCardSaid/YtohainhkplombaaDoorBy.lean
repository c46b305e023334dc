/- msgp's Writer.WriteBytes: a head and the bytes. PRINTED by wip/genby.py. -/
import Derived.Test.YtohainhkplombaaDoorBu
import Derived.Test.YtohainhkplombaaDoorBl
import Derived.Test.YtohainhkplombaaDoorBc
namespace Go.Proofs.YtohainhkplombaaDoor
open Go.RowKit
set_option linter.unusedVariables false

/-- A Writer's call returned no error; so much is written, in all. -/
def WPostT (w0 : World) (B gw gb gt N : Nat) (tot : List Int) (e : Ending) (W' : World) : Prop :=
  e = .returned .nilIface ∧ ∃ cs v out pend, cs.length = N ∧ WP w0 W' B gw gb gt cs v out pend ∧ out ++ pend = tot

set_option maxHeartbeats 2000000 in
set_option maxRecDepth 100000 in
theorem WriteBytes_calls (w0 W : World) (B gw gb gt c : Nat) (cs : List Value) (v : Value) (out pend r : List Int) (A : Option Addr) (h : WP w0 W B gw gb gt cs v out pend) (hr : Reads W W.heap.size 1 A r.length (bs r)) (hA : Far gw gb gt v A r.length) (hn : out.length + pend.length + r.length ≤ 1099511000000) (hrl : r.length ≤ 16777216) :
    Calls Tryd.prog 10 #[.pointer (some ⟨gw, 0, none⟩), .slice A r.length c] W (WPostT w0 B gw gb gt cs.length (out ++ pend ++ encT r)) := by
  have HW := Lib.hid h
  have HR := Lib.hid hr
  have HA := Lib.hid hA
  clear h hr hA
  by_cases u0 : (r.length : Int) ≤ 255
  · have e : encT r = (196 :: be r.length 1) ++ r := by unfold encT binHead; rw [if_pos u0]
    have he : (196 :: be (r.length : Int) 1).length = 2 := by simp [be_length]
    have HE := Lib.hid e
    clear e
    go_enter Tryd.func10, Tryd.ntmps10
    go_wp2_with (first
      | (go_at_call 15
         go_must (
           (refine (prefix8_f w0 _ B gw gb gt cs v out pend 196 _ HW.out (by omega) (by omega) (by omega)).mono ?_)
           rintro e W1 ⟨rfl, cs1, v1, out1, pend1, hl1, hwp1, ht1, hf1⟩
           have HW1 := Lib.hid hwp1
           have HR1 := Lib.hid (HA.out.reads HR.out hf1)
           have HA1 := Lib.hid (HA.out.frm HR.out hf1)
           have hlen : out1.length + pend1.length = out.length + pend.length + 2 := by
             have := congrArg List.length ht1
             simp only [List.length_append, he] at this
             exact this
           have HT1 := Lib.hid ht1
           clear hwp1 ht1 hf1))
      | (go_at_call 18
         go_must (
           (refine (Write_calls w0 W1 B gw gb gt c cs1 v1 out1 pend1 r A HW1.out HR1.out HA1.out (by omega)).mono ?_)
           rintro e W2 ⟨rfl, cs2, v2, out2, pend2, hl2, hwp2, ht2⟩
           have HW2 := Lib.hid hwp2
           have HT2 := Lib.hid ht2
           clear hwp2 ht2)))
    go_ret
    exact ⟨rfl, cs2, v2, out2, pend2, by omega, HW2.out, by rw [HT2.out, HT1.out, HE.out]; simp⟩
  · by_cases u1 : (r.length : Int) ≤ 65535
    · have e : encT r = (197 :: be r.length 2) ++ r := by unfold encT binHead; rw [if_neg u0, if_pos u1]
      have he : (197 :: be (r.length : Int) 2).length = 3 := by simp [be_length]
      have HE := Lib.hid e
      clear e
      go_enter Tryd.func10, Tryd.ntmps10
      go_wp2_with (first
        | (go_at_call 16
           go_must (
             (refine (prefix16_f w0 _ B gw gb gt cs v out pend 197 _ HW.out (by omega) (by omega) (by omega)).mono ?_)
             rintro e W1 ⟨rfl, cs1, v1, out1, pend1, hl1, hwp1, ht1, hf1⟩
             have HW1 := Lib.hid hwp1
             have HR1 := Lib.hid (HA.out.reads HR.out hf1)
             have HA1 := Lib.hid (HA.out.frm HR.out hf1)
             have hlen : out1.length + pend1.length = out.length + pend.length + 3 := by
               have := congrArg List.length ht1
               simp only [List.length_append, he] at this
               exact this
             have HT1 := Lib.hid ht1
             clear hwp1 ht1 hf1))
        | (go_at_call 18
           go_must (
             (refine (Write_calls w0 W1 B gw gb gt c cs1 v1 out1 pend1 r A HW1.out HR1.out HA1.out (by omega)).mono ?_)
             rintro e W2 ⟨rfl, cs2, v2, out2, pend2, hl2, hwp2, ht2⟩
             have HW2 := Lib.hid hwp2
             have HT2 := Lib.hid ht2
             clear hwp2 ht2)))
      go_ret
      exact ⟨rfl, cs2, v2, out2, pend2, by omega, HW2.out, by rw [HT2.out, HT1.out, HE.out]; simp⟩
    · have e : encT r = (198 :: be r.length 4) ++ r := by unfold encT binHead; rw [if_neg u0, if_neg u1]
      have he : (198 :: be (r.length : Int) 4).length = 5 := by simp [be_length]
      have HE := Lib.hid e
      clear e
      go_enter Tryd.func10, Tryd.ntmps10
      go_wp2_with (first
        | (go_at_call 17
           go_must (
             (refine (prefix32_f w0 _ B gw gb gt cs v out pend 198 _ HW.out (by omega) (by omega) (by omega)).mono ?_)
             rintro e W1 ⟨rfl, cs1, v1, out1, pend1, hl1, hwp1, ht1, hf1⟩
             have HW1 := Lib.hid hwp1
             have HR1 := Lib.hid (HA.out.reads HR.out hf1)
             have HA1 := Lib.hid (HA.out.frm HR.out hf1)
             have hlen : out1.length + pend1.length = out.length + pend.length + 5 := by
               have := congrArg List.length ht1
               simp only [List.length_append, he] at this
               exact this
             have HT1 := Lib.hid ht1
             clear hwp1 ht1 hf1))
        | (go_at_call 18
           go_must (
             (refine (Write_calls w0 W1 B gw gb gt c cs1 v1 out1 pend1 r A HW1.out HR1.out HA1.out (by omega)).mono ?_)
             rintro e W2 ⟨rfl, cs2, v2, out2, pend2, hl2, hwp2, ht2⟩
             have HW2 := Lib.hid hwp2
             have HT2 := Lib.hid ht2
             clear hwp2 ht2)))
      go_ret
      exact ⟨rfl, cs2, v2, out2, pend2, by omega, HW2.out, by rw [HT2.out, HT1.out, HE.out]; simp⟩

theorem WP.more {w0 W W' : World} {B gw gb gt : Nat} {cs : List Value} {v : Value} {out pend : List Int} (h : WP w0 W B gw gb gt cs v out pend) (hb : Below W.heap.size W W') : WP w0 W' B gw gb gt cs v out pend :=
  ⟨h.wr.below hb h.wr.lt, h.buf.below hb h.buf.lt, h.tk, h.le, h.lo, h.hi, h.txt.below hb h.txt.lt, h.own.kept (row := none) ⟨hb.os, hb.tape, hb.output, hb.size, fun k hk _ => hb.block k hk⟩ (by cases v.ownBlock; exact .inl rfl; exact .inr (by simp)), h.ne, h.bw, h.bb, h.bt, h.bel.trans (hb.mono h.bsz), Nat.le_trans h.bsz hb.size⟩

set_option maxHeartbeats 1000000 in
theorem StreamPutBin_clo (w0 W : World) (B gw gb gt : Nat) (cs : List Value) (v : Value) (out pend r : List Int) (h : WP w0 W B gw gb gt cs v out pend) (hr : IsB r) (hn : out.length + pend.length + r.length ≤ 1099511000000) (hrl : r.length ≤ 16777216) :
    Calls Tryd.prog 9 #[.pointer (some ⟨gw, 0, none⟩), .string (strOfNums r)] W (WPostT w0 B gw gb gt cs.length (out ++ pend ++ encT r)) := by
  obtain ⟨cap, WB, hcv, hp⟩ := conv_str r hr (by omega)
  have HW := Lib.hid h
  have HP := Lib.hid hp
  have ho : ∀ k, v.ownBlock = some k → k < W.heap.size := fun k hk => (h.own.lt k hk).2
  have HO := Lib.hid ho
  clear h hp ho
  go_enter Tryd.func9, Tryd.ntmps9
  go_wp2_with (
    (go_at_call 10)
    go_must (
      (refine (WriteBytes_calls w0 (WB W) B gw gb gt _ cs v out pend r _ (HW.out.more (HP.out W).2.2.2.1) ((HP.out W).1.more (by rw [(HP.out W).2.2.2.2]; omega)) (fun _ ad hA => ?_) hn hrl).mono ?_)
      · injection hA with e
        subst e
        have h1 := HW.out.wr.lt
        have h2 := HW.out.buf.lt
        have h3 := HW.out.txt.lt
        exact ⟨by simp only; omega, by simp only; omega, by simp only; omega, fun e => by have := HO.out W.heap.size e.symm; omega⟩
      rintro e W1 ⟨rfl, hr1⟩
      have HR := Lib.hid hr1
      clear hr1))
  go_ret
  exact ⟨rfl, HR.out⟩

end Go.Proofs.YtohainhkplombaaDoor
