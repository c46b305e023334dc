/- msgp's source: the next byte, passing bytes, taking bytes. PRINTED by wip/genrc.py. -/
import Derived.Test.YtpfjmnaognlnkaaDoorRb
namespace Go.Proofs.YtpfjmnaognlnkaaDoor
open Go.RowKit
set_option linter.unusedVariables false

/-- A source in some state: what is not yet taken is 'tot'. -/
def SR (w0 : World) (B gs gd sz : Nat) (ch : Int) (tot : List Int) (W : World) : Prop :=
  ∃ vr old ahead rest Ad cd, SS w0 W B gs gd sz ch vr old ahead rest Ad cd ∧ ahead ++ rest = tot
theorem SR.drewN {w0 W : World} {B gs gd sz : Nat} {ch : Int} {tot : List Int} (h : SR w0 B gs gd sz ch tot W) (n : Nat) : SR w0 B gs gd sz ch tot (W.drewN n) := by
  obtain ⟨vr, old, ahead, rest, Ad, cd, hs, ht⟩ := h
  exact ⟨vr, old, ahead, rest, Ad, cd, hs.drewN n, ht⟩
theorem SR.bel {w0 W : World} {B gs gd sz : Nat} {ch : Int} {tot : List Int} (h : SR w0 B gs gd sz ch tot W) : Below B w0 W := by
  obtain ⟨vr, old, ahead, rest, Ad, cd, hs, ht⟩ := h
  exact hs.bel
theorem more_calls (w0 W : World) (B gs gd sz : Nat) (ch : Int) (tot : List Int) (n : Nat) (k : Int) (hk : k = (n : Int)) (h : SR w0 B gs gd sz ch tot W) (hn : n ≤ tot.length) (hn16 : n ≤ 16) :
    Calls Tryd.prog 49 #[.pointer (some ⟨gs, 0, none⟩), .int .i64 k] W (MR w0 B gs gd sz n ch tot) := by
  subst hk
  obtain ⟨vr, old, ahead, rest, Ad, cd, hs, rfl⟩ := h
  by_cases hna : n ≤ ahead.length
  · exact more_have w0 W B gs gd sz ch vr old ahead rest Ad cd n hs hna
  · obtain ⟨A, c, rfl, hc, hl⟩ := room_form hs.room hs.hi
    exact more_read w0 W B gs gd sz ch _ old ahead rest Ad cd n hs (by omega) (by rw [List.length_append] at hn; exact hn) hn16 _ c A rfl List.length_append hc hl
theorem ss_take {w0 W : World} {B gs gd sz n : Nat} {ch : Int} {vr : Value} {old ah rs : List Int} {Ad : Option Addr} {cd : Nat} (h : SS w0 W B gs gd sz ch vr old ah rs Ad cd) (hn : n ≤ ah.length) (j : Nat) :
    SS w0 ((W.drewN j).setCell ⟨gs, 2, none⟩ (.int .i64 ((old.length : Int) + (n : Int)))) B gs gd sz ch vr (old ++ ah.take n) (ah.drop n) rs Ad cd := by
  have e : gd ≠ gs := h.drp.ne_ h.src (by decide)
  have hla : (((old ++ ah.take n).length : Nat) : Int) = (old.length : Int) + (n : Int) := by rw [List.length_append, List.length_take]; omega
  have hsz : ((W.drewN j).setCell ⟨gs, 2, none⟩ (.int .i64 ((old.length : Int) + (n : Int)))).heap.size = W.heap.size := by simp [World.setCell]
  refine ⟨by rw [hla]; exact (h.src.drewN j).set_ 2 _, (h.drp.drewN j).far e _, ?_, ?_, h.far, h.dc, h.dm, h.lo, h.hi, h.c0, h.c1, h.bs_, h.bd, (below_drewN h.bel j).setCell (p := ⟨gs, 2, none⟩) h.bs_ _, by rw [hsz]; exact h.bsz, (h.kt.drewN j).src (h.src.drewN j) _, (h.a8.drewN j).set_ (h.src.drewN j) (by decide) _⟩
  · rw [hsz]
    exact reads_far h.rd (fun ad hA _ => Below.heap_setCell _ ⟨gs, 2, none⟩ _ ad.block (h.far ad hA).2.1)
  · rw [List.append_assoc, List.take_append_drop]
    rcases h.room with ⟨a, b⟩ | ⟨g, cs, hv, hb, hx⟩
    · exact .inl ⟨a, b⟩
    · exact .inr ⟨g, cs, hv, (hb.drewN j).far (hb.ne_ h.src (by decide)) _, hx⟩

set_option maxHeartbeats 4000000 in
set_option maxRecDepth 100000 in
theorem PeekByte_calls (w0 W : World) (B gs gd sz : Nat) (ch b : Int) (tot : List Int) (h : SR w0 B gs gd sz ch (b :: tot) W) :
    Calls Tryd.prog 29 #[.pointer (some ⟨gs, 0, none⟩)] W (fun e W' => e = .returned (.tuple #[.int .u8 b, .nilIface]) ∧ SR w0 B gs gd sz ch (b :: tot) W') := by
  have H := Lib.hid h
  clear h
  go_enter Tryd.func29, Tryd.ntmps29
  go_wp2_with (
    (go_at_call 49)
    go_must (
      (refine (more_calls w0 _ B gs gd sz ch (b :: tot) 1 1 rfl H.out (by simp) (by omega)).mono ?_)
      rintro e w1 ⟨rfl, vr, old, ah, rs, Ad, cd, hs, ht, hn⟩
      obtain ⟨A, c, rfl, hc, hl⟩ := room_form hs.room hs.hi
      rcases room_cases hs.room with ⟨_, _, hz⟩ | ⟨g, cs, rfl, rfl, hb, htk, hB, hcc⟩
      · have := congrArg List.length hz
        simp only [List.length_append, List.length_nil] at this
        omega
      obtain ⟨q0, q1, q2, q3, q4⟩ := ss_cells hs
      obtain ⟨N, hN⟩ : ∃ N, (old ++ ah).length = N := ⟨_, rfl⟩
      have hN2 : N = old.length + ah.length := by rw [← hN]; exact List.length_append
      have HN2 := Lib.hid hN2
      rw [hN] at q1 hl hs
      have HS := Lib.hid hs
      have HB := Lib.hid hb
      have HK := Lib.hid htk
      have HSR : Hid (SR w0 B gs gd sz ch (b :: tot) w1) := Lib.hid ⟨_, _, _, _, _, _, HS.out, ht⟩
      have hx : w1.cell? ⟨g, old.length, none⟩ = some (.int .u8 b) := by
        obtain ⟨a, ah2, rfl⟩ : ∃ a ah2, ah = a :: ah2 := List.exists_cons_of_length_pos hn
        rw [List.cons_append] at ht
        injection ht with e1 e2
        subst e1
        have := room_at hb htk 0 (.int .u8 a) rfl
        rwa [add_lit, Nat.add_zero] at this
      have hd1 : ((N : Int) == (old.length : Int)) = false := beq_eq_false_iff_ne.2 (by omega)
      have hd2 : (0 : Int) ≤ (old.length : Int) := by omega
      have hd3 : (old.length : Int) < (N : Int) := by omega
      clear hs hb htk ht hN2 hN))
  go_quiet (fail)
  go_wp2
  go_quiet (fail)
  go_wp2
  go_ret2
  exact ⟨rfl, (HSR.out.drewN _).drewN _⟩

set_option maxHeartbeats 4000000 in
set_option maxRecDepth 100000 in
theorem Skip_calls (w0 W : World) (B gs gd sz n : Nat) (ch k : Int) (hk : k = (n : Int)) (tot : List Int) (h : SR w0 B gs gd sz ch tot W) (hn : n ≤ tot.length) (hn1 : 1 ≤ n) (hn16 : n ≤ 16) :
    Calls Tryd.prog 32 #[.pointer (some ⟨gs, 0, none⟩), .int .i64 k] W (fun e W' => e = .returned (.tuple #[.int .i64 k, .nilIface]) ∧ SR w0 B gs gd sz ch (tot.drop n) W') := by
  subst hk
  have H := Lib.hid h
  have HN := Lib.hid hn
  clear h hn
  go_enter Tryd.func32, Tryd.ntmps32
  go_wp2_with (
    (go_at_call 49)
    go_must (
      (refine (more_calls w0 _ B gs gd sz ch tot n _ rfl H.out HN.out hn16).mono ?_)
      rintro e w1 ⟨rfl, vr, old, ah, rs, Ad, cd, hs, ht, hn⟩
      obtain ⟨A, c, rfl, hc, hl⟩ := room_form hs.room hs.hi
      rcases room_cases hs.room with ⟨_, _, hz⟩ | ⟨g, cs, rfl, rfl, hb, htk, hB, hcc⟩
      · have := congrArg List.length hz
        simp only [List.length_append, List.length_nil] at this
        omega
      obtain ⟨q0, q1, q2, q3, q4⟩ := ss_cells hs
      obtain ⟨N, hN⟩ : ∃ N, (old ++ ah).length = N := ⟨_, rfl⟩
      have hN2 : N = old.length + ah.length := by rw [← hN]; exact List.length_append
      have HN2 := Lib.hid hN2
      rw [hN] at q1 hl hs
      have HS := Lib.hid hs
      have HB := Lib.hid hb
      have HK := Lib.hid htk
      have HT := Lib.hid ht
      have hd1 : decide ((N : Int) - (old.length : Int) < (n : Int)) = false := decide_eq_false (by omega)
      have hcs : cs.length ≤ 196608 := by have := hs.hi; omega
      have hw1 : IntKind.i64.wrap ((N : Int) - (old.length : Int)) = (N : Int) - (old.length : Int) := by rw [IntKind.wrap_i64]; omega
      have hw2 : IntKind.i64.wrap ((old.length : Int) + (n : Int)) = (old.length : Int) + (n : Int) := by rw [IntKind.wrap_i64]; omega
      have fz := hs.src.frozen 2
      have HST : Hid (∀ j, SR w0 B gs gd sz ch (tot.drop n) ((w1.drewN j).setCell ⟨gs, 2, none⟩ (.int .i64 ((old.length : Int) + (n : Int))))) := Lib.hid fun j => ⟨_, _, _, _, _, _, ss_take hs hn j, by rw [← ht, List.drop_append_of_le_length hn]⟩
      clear hs hb htk ht hN2 hN))
  go_quiet (fail)
  go_wp2
  go_ret2
  exact ⟨rfl, HST.out _⟩

set_option maxHeartbeats 4000000 in
set_option maxRecDepth 100000 in
theorem Next_calls (w0 W : World) (B gs gd sz n : Nat) (ch k : Int) (hk : k = (n : Int)) (tot : List Int) (h : SR w0 B gs gd sz ch tot W) (hn : n ≤ tot.length) (hn1 : 1 ≤ n) (hn16 : n ≤ 16) :
    Calls Tryd.prog 35 #[.pointer (some ⟨gs, 0, none⟩), .int .i64 k] W (fun e W' => ∃ A c, e = .returned (.tuple #[.slice A n c, .nilIface]) ∧ n ≤ c ∧ c ≤ 196608 ∧ Reads W' W'.heap.size 1 A n (bs (tot.take n)) ∧ SR w0 B gs gd sz ch (tot.drop n) W') := by
  subst hk
  have H := Lib.hid h
  have HN := Lib.hid hn
  clear h hn
  go_enter Tryd.func35, Tryd.ntmps35
  go_wp2_with (
    (go_at_call 49)
    go_must (
      (refine (more_calls w0 _ B gs gd sz ch tot n _ rfl H.out HN.out hn16).mono ?_)
      rintro e w1 ⟨rfl, vr, old, ah, rs, Ad, cd, hs, ht, hn⟩
      obtain ⟨A, c, rfl, hc, hl⟩ := room_form hs.room hs.hi
      rcases room_cases hs.room with ⟨_, _, hz⟩ | ⟨g, cs, rfl, rfl, hb, htk, hB, hcc⟩
      · have := congrArg List.length hz
        simp only [List.length_append, List.length_nil] at this
        omega
      obtain ⟨q0, q1, q2, q3, q4⟩ := ss_cells hs
      obtain ⟨N, hN⟩ : ∃ N, (old ++ ah).length = N := ⟨_, rfl⟩
      have hN2 : N = old.length + ah.length := by rw [← hN]; exact List.length_append
      have HN2 := Lib.hid hN2
      rw [hN] at q1 hl hs
      have HS := Lib.hid hs
      have HB := Lib.hid hb
      have HK := Lib.hid htk
      have hd1 : decide ((N : Int) - (old.length : Int) < (n : Int)) = false := decide_eq_false (by omega)
      have hcs : cs.length ≤ 196608 := by have := hs.hi; omega
      have hw1 : IntKind.i64.wrap ((N : Int) - (old.length : Int)) = (N : Int) - (old.length : Int) := by rw [IntKind.wrap_i64]; omega
      have hw2 : IntKind.i64.wrap ((old.length : Int) + (n : Int)) = (old.length : Int) + (n : Int) := by rw [IntKind.wrap_i64]; omega
      have hj1 : (0 : Int) ≤ (old.length : Int) := by omega
      have hj2 : (old.length : Int) ≤ (old.length : Int) + (n : Int) := by omega
      have hj3 : (old.length : Int) + (n : Int) ≤ (cs.length : Int) := by omega
      have hj4 : ((old.length : Int)).toNat = old.length := by omega
      have hj5 : ((old.length : Int) + (n : Int)).toNat = old.length + n := by omega
      have hj6 : ¬ cs.length = old.length := by omega
      have hj7 : old.length + n - old.length = n := by omega
      have hj8 : cs.length - old.length ≤ 196608 := by omega
      have hj9 : n ≤ cs.length - old.length := by omega
      have fz := hs.src.frozen 2
      have hgs : g ≠ gs := hb.ne_ hs.src (by decide)
      have HST : Hid (∀ j, SR w0 B gs gd sz ch (tot.drop n) ((w1.drewN j).setCell ⟨gs, 2, none⟩ (.int .i64 ((old.length : Int) + (n : Int))))) := Lib.hid fun j => ⟨_, _, _, _, _, _, ss_take hs hn j, by rw [← ht, List.drop_append_of_le_length hn]⟩
      have HRD : Hid (∀ j v, Reads ((w1.drewN j).setCell ⟨gs, 2, none⟩ v) ((w1.drewN j).setCell ⟨gs, 2, none⟩ v).heap.size 1 (some ⟨g, old.length, none⟩) n (bs (tot.take n))) := Lib.hid fun j v => by
        refine ⟨by rw [bs_length, List.length_take, ← ht, List.length_append]; omega, fun _ => ⟨_, rfl, ((hb.drewN j).far (p := ⟨gs, 2, none⟩) hgs v).lt, fun i u hu => ?_⟩⟩
        rw [← ht, List.take_append_of_le_length hn, ← bs_take, List.getElem?_take] at hu
        split at hu
        · exact room_at ((hb.drewN j).far (p := ⟨gs, 2, none⟩) hgs v) htk i u hu
        · cases hu
      clear hs hb htk ht hN2 hN))
  go_quiet (fail)
  go_wp2
  go_quiet (fail)
  go_wp2
  go_ret2
  exact ⟨_, _, rfl, hj9, hj8, HRD.out _ _, HST.out _⟩
end Go.Proofs.YtpfjmnaognlnkaaDoor
