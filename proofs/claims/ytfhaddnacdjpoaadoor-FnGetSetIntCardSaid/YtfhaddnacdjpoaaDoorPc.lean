/- Forms.putHead: the head of a text, bytes, an array, a map, in a form that is chosen. -/
import Derived.Test.YtfhaddnacdjpoaaDoorPb
namespace Go.Proofs.YtfhaddnacdjpoaaDoor
open Go.RowKit
set_option linter.unusedVariables false

/-- What a call of Forms writes: bytes of its own. -/
def PutH (gf : Nat) (sh : Bool) (F : List Int → Prop) (W : World) (e : Ending) (W' : World) : Prop :=
  ∃ enc A c st', e = .returned (.slice A enc.length c) ∧ F enc ∧ W'.ownsRow W.heap.size 5 1 (.slice A enc.length c) enc.length (bs enc) ∧ Blk W' gf 34 [.int .u64 st', .bool sh] ∧ W.grownBy W' (some gf)
/-- The head is one of some forms. -/
def HeadF (n : Int) (fs : List (Int × Nat)) (enc : List Int) : Prop := ∃ p ∈ fs, okF n p = true ∧ enc = p.1 :: be n p.2
theorem own_lower {w : World} {B B' n : Nat} {e : TypeId} {size : Nat} {v : Value} {xs : List Value} (h : w.ownsRow B e size v n xs) (hB : B' ≤ B) : w.ownsRow B' e size v n xs := by
  refine ⟨h.1, ?_⟩
  rcases h.2 with hn | ⟨g, cap, cur, hv, hb, rest⟩
  · exact .inl hn
  · exact .inr ⟨g, cap, cur, hv, Nat.le_trans hB hb, rest⟩
theorem grownP_trans {a b c : World} {row : Option Nat} (h : a.grownBy b row) (h2 : b.grownBy c row) : a.grownBy c row :=
  ⟨h2.os.trans h.os, h2.tape.trans h.tape, h2.output.trans h.output, Nat.le_trans h.size h2.size, fun k hk hn => (h2.block k (Nat.lt_of_lt_of_le hk h.size) hn).trans (h.block k hk hn)⟩
theorem belowP_grown {a b : World} (h : Below a.heap.size a b) (row : Option Nat) : a.grownBy b row := ⟨h.os, h.tape, h.output, h.size, fun k hk _ => h.block k hk⟩

set_option maxHeartbeats 4000000 in
set_option maxRecDepth 100000 in
theorem putHead_plain (w : World) (gf c n : Nat) (st fixed under : Int) (sh : Bool) (A : Option Addr) (fs : List (Int × Nat)) (hb : Blk w gf 34 [.int .u64 st, .bool sh]) (hn : n ≤ 4294967295)
    (h : WantsF w w.heap.size A fs) (hl : fs.length ≤ 8) (hs : ∀ p ∈ fs, 0 ≤ p.1 ∧ p.1 ≤ 255 ∧ p.2 ≤ 8) (hp : fixed < 0 ∨ (0 ≤ fixed ∧ under ≤ n)) (hok : 0 < (fs.filter (okF n)).length) :
    Calls Tryd.prog 23 #[.pointer (some ⟨gf, 0, none⟩), .int .i64 n, .int .i64 fixed, .int .i64 under, .slice A fs.length c] w (PutH gf sh (HeadF n fs) w) := by
  have hwn : IntKind.u64.wrap (n : Int) = n := by rw [IntKind.wrap_u64]; omega
  have hgf := hb.lt
  obtain ⟨K, hK⟩ : ∃ K, K = fs.filter (okF n) := ⟨_, rfl⟩
  have hK8 : K.length ≤ 8 := by rw [hK]; exact Nat.le_trans (List.length_filter_le _ _) hl
  have hsz := sizes_calls w n A c fs (by omega) (by omega) h hl (fun p hp => (hs p hp).2.2)
  have hKP : ∀ p ∈ K, p ∈ fs ∧ okF n p = true := fun p hp => by rw [hK] at hp; exact List.mem_filter.1 hp
  rw [← hK] at hsz hok
  have HB := Lib.hid hb
  have HS := Lib.hid hs
  have HSZ := Lib.hid hsz
  have HKP := Lib.hid hKP
  clear hb h hs hsz hKP hK
  have hp2 : fixed < 0 ∨ (0 ≤ fixed ∧ ¬ (n : Int) < under) := by omega
  clear hp
  rcases hp2 with hp | ⟨hp, hp'⟩
  all_goals
    go_enter Tryd.func23, Tryd.ntmps23
    go_wp2_with (first
      | (go_at_call 36
         go_must (
           (refine HSZ.out.mono ?_)
           rintro e w1 ⟨A1, c1, rfl, hown1, hbel1⟩
           have hb1 := HB.out.below hbel1 hgf
           have HOWN1 := Lib.hid hown1
           have HBEL1 := Lib.hid hbel1
           have HB1 := Lib.hid hb1
           clear hown1 hbel1 hb1))
      | (go_at_call 35
         go_must (
           (refine (pick_calls w1 gf K.length st sh HB1.out hok (by omega)).mono ?_)
           rintro e w2 ⟨k, st2, rfl, hk2, hb2, hg2⟩
           have hown2 := HOWN1.out.kept hg2 (.inr (fun e => by have := (HOWN1.out.lt gf e).1; omega))
           obtain ⟨g2, hA2, hg2B, hc2⟩ := wantsF_own hown2 (by omega)
           subst hA2
           obtain ⟨c20, c21⟩ := hc2 k hk2
           have hm : K[k] ∈ K := List.getElem_mem hk2
           generalize K[k] = p at *
           obtain ⟨code, s⟩ := p
           obtain ⟨hpf, hpo⟩ := HKP.out _ hm
           obtain ⟨hp0, hp1, hp3⟩ := HS.out _ hpf
           simp only at c20 c21 hp0 hp1 hp3
           have HPF := Lib.hid hpf
           have HPO := Lib.hid hpo
           have HB2 := Lib.hid hb2
           have HG2 := Lib.hid hg2
           clear hown2 hc2 hm hpf hpo hb2 hg2))
      | (go_at_call 22
         go_must (
           (refine (headed_calls w2 n code s (by omega) (by omega) hp3 hp0 hp1).mono ?_)
           rintro e w3 ⟨A3, c3, rfl, hown3, hbel3⟩
           have HOWN3 := Lib.hid hown3
           have HBEL3 := Lib.hid hbel3
           clear hown3 hbel3 c20 c21)))
    go_ret
    have hg1 := belowP_grown HBEL1.out (some gf)
    have hz2 := HG2.out.size
    have hz1 := HBEL1.out.size
    exact ⟨code :: be n s, A3, c3, st2, rfl, ⟨_, HPF.out, HPO.out, rfl⟩, own_lower HOWN3.out (by omega), HB2.out.below HBEL3.out HB2.out.lt, grownP_trans (grownP_trans hg1 HG2.out) (belowP_grown HBEL3.out _)⟩
end Go.Proofs.YtfhaddnacdjpoaaDoor
