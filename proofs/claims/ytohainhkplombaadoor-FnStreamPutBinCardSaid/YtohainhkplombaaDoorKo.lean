/- The laws' inOrder: values that stand one behind the other are read as they are wanted. -/
import Derived.Test.YtohainhkplombaaDoorKl
namespace Go.Proofs.YtohainhkplombaaDoor
open Go.RowKit
set_option linter.unusedVariables false

/-- A list of values that the call made, without values in them: what stands in its cells. -/
def Wants (W : World) (B : Nat) (A : Option Addr) (l : List Int) (wk wu : Int → Int) : Prop :=
  0 < l.length → ∃ g, A = some ⟨g, 0, none⟩ ∧ g < B ∧ ∀ k, k < l.length → ∀ j u, ([.int .i64 (wk (l.getD k 0)), .int .u64 (wu (l.getD k 0)), .string ⟨#[]⟩, .int .i64 0, .slice none 0 0] : List Value)[j]? = some u → W.cell? ⟨g, k * 5 + j, none⟩ = some u
theorem Wants.below {W W' : World} {B : Nat} {A : Option Addr} {l : List Int} {wk wu : Int → Int} (h : Wants W B A l wk wu) (hb : Below B W W') : Wants W' B A l wk wu := fun h0 => by
  obtain ⟨g, hA, hg, hc⟩ := h h0
  exact ⟨g, hA, hg, fun k hk j u hu => (hb.cell (p := ⟨g, k * 5 + j, none⟩) hg).trans (hc k hk j u hu)⟩

theorem isB_flat {l : List Int} {enc : Int → List Int} (h : ∀ x ∈ l, IsB (enc x)) : IsB (l.flatMap enc) := by
  intro y hy
  obtain ⟨x, hx, hy⟩ := List.mem_flatMap.1 hy
  exact h x hx y hy
theorem flat_drop (l : List Int) (enc : Int → List Int) (k : Nat) (h : k < l.length) : (l.drop k).flatMap enc = enc (l.getD k 0) ++ (l.drop (k + 1)).flatMap enc := by
  rw [List.drop_eq_getElem_cons h, List.flatMap_cons, List.getD_eq_getElem?_getD, List.getElem?_eq_getElem h]; rfl

set_option maxHeartbeats 2000000 in
set_option maxRecDepth 100000 in
theorem inOrder_calls (w : World) (B c c2 : Nat) (A A2 : Option Addr) (l : List Int) (enc : Int → List Int) (wk wu tk tu : Int → Int) (h : Reads w B 1 A (l.flatMap enc).length (bs (l.flatMap enc))) (hB : B ≤ w.heap.size) (hc : (l.flatMap enc).length ≤ c) (hm : c ≤ maxLen) (hw : Wants w B A2 l wk wu) (hn : l.length ≤ 1000000)
    (henc : ∀ x ∈ l, IsB (enc x))
    (htake : ∀ x ∈ l, ∀ rest, IsB rest → ∀ (W : World) (A : Option Addr) (c : Nat), Reads W B 1 A (enc x ++ rest).length (bs (enc x ++ rest)) → B ≤ W.heap.size → (enc x ++ rest).length ≤ c → c ≤ maxLen →
      Calls Tryd.prog 11 #[.slice A (enc x ++ rest).length c, .int .i64 2] W (Coded W B (.agg #[.int .i64 (tk x), .int .u64 (tu x), .string ⟨#[]⟩, .int .i64 0, .slice none 0 0]) rest))
    (hsame : ∀ x ∈ l, ∀ W : World, Calls Tryd.prog 12 #[.agg #[.int .i64 (wk x), .int .u64 (wu x), .string ⟨#[]⟩, .int .i64 0, .slice none 0 0], .agg #[.int .i64 (tk x), .int .u64 (tu x), .string ⟨#[]⟩, .int .i64 0, .slice none 0 0]] W fun e w' => e = .returned (.bool true) ∧ Below W.heap.size W w') :
    Calls Tryd.prog 7 #[.slice A (l.flatMap enc).length c, .bool true, .slice A2 l.length c2] w fun e w' => e = .returned (.bool true) ∧ Below w.heap.size w w' := by
  have HR := Lib.hid h
  have HW := Lib.hid hw
  have HE := Lib.hid henc
  have HT := Lib.hid htake
  have HS := Lib.hid hsame
  have HC := Lib.hid hc
  clear h hw henc htake hsame hc
  go_enter Tryd.func7, Tryd.ntmps7
  go_wp2
  go_loopw [0, 14] (fun d i wr => ∃ k A' c' N, k ≤ l.length ∧ i = .int .i64 (k : Nat) ∧ d = .slice A' N c' ∧ Hid (N = ((l.drop k).flatMap enc).length ∧ N ≤ c' ∧ c' ≤ maxLen ∧ Reads wr B 1 A' N (bs ((l.drop k).flatMap enc)) ∧ Below w.heap.size w wr)) (fun _ i _ => l.length - (intOf i).toNat)
  case atStart => exact ⟨0, A, c, _, Nat.zero_le _, rfl, rfl, rfl, HC.out, hm, HR.out, Below.refl _ _⟩
  case round =>
    obtain ⟨k, A', c', N, hk, rfl, rfl, hrest⟩ := hrel
    by_cases hlt : k < l.length
    · obtain ⟨g, hA2, hgB, hcells⟩ := HW.out (by omega)
      subst hA2
      have hx : l.getD k 0 ∈ l := by rw [List.getD_eq_getElem?_getD, List.getElem?_eq_getElem hlt]; exact List.getElem_mem hlt
      have hck := hcells k hlt
      have hgw : g < w.heap.size := by omega
      have cf : ∀ j u, ([.int .i64 (wk (l.getD k 0)), .int .u64 (wu (l.getD k 0)), .string ⟨#[]⟩, .int .i64 0, .slice none 0 0] : List Value)[j]? = some u → wr.cell? ⟨g, k * 5 + j, none⟩ = some u := fun j u hu => (hrest.out.2.2.2.2.cell (p := ⟨g, k * 5 + j, none⟩) hgw).trans (hck j u hu)
      have c0 := cf 0 _ rfl
      have c1 := cf 1 _ rfl
      have c2' := cf 2 _ rfl
      have c3 := cf 3 _ rfl
      have c4 := cf 4 _ rfl
      rw [Nat.add_zero] at c0
      have hfd := flat_drop l enc k hlt
      have hbr : Below w.heap.size w wr := hrest.out.2.2.2.2
      have hBr : B ≤ wr.heap.size := Nat.le_trans hB hbr.size
      obtain ⟨R, hR⟩ : ∃ R, R = (l.drop (k + 1)).flatMap enc := ⟨_, rfl⟩
      rw [← hR] at hfd
      have hRB : IsB R := by rw [hR]; exact isB_flat (fun x hx => HE.out x (List.mem_of_mem_drop hx))
      generalize l.getD k 0 = x at *
      have hN : N = (enc x ++ R).length := by rw [← hfd]; exact hrest.out.1
      have hrd : Reads wr B 1 A' (enc x ++ R).length (bs (enc x ++ R)) := by
        have := hrest.out.2.2.2.1
        rw [hfd, hN] at this
        exact this
      have HRD := Lib.hid hrd
      have HN := Lib.hid hN
      have hNc : N ≤ c' := hrest.out.2.1
      have hcm : c' ≤ maxLen := hrest.out.2.2.1
      have HRR := Lib.hid hR
      have HRB := Lib.hid hRB
      have HX : Hid (x ∈ l) := hx
      have HBR := Lib.hid hbr
      have ht : ∀ W : World, Reads W B 1 A' (enc x ++ R).length (bs (enc x ++ R)) → B ≤ W.heap.size → Calls Tryd.prog 11 #[.slice A' N c', .int .i64 2] W (Coded W B (.agg #[.int .i64 (tk x), .int .u64 (tu x), .string ⟨#[]⟩, .int .i64 0, .slice none 0 0]) R) := fun W h1 h2 => by
        rw [hN]
        exact HT.out x hx R hRB W A' c' h1 h2 (by rw [← hN]; exact hNc) hcm
      have HTX := Lib.hid ht
      have HSX := Lib.hid (HS.out x hx)
      clear hck cf hcells hx hfd hR hRB hrd hN hrest hbr ht
      go_wp2_with (first
        | (go_at_call 11
           go_must (
             (refine (HTX.out _ (HRD.out.alloc hBr _) (by simp; omega)).mono ?_)
             rintro e w1 ⟨A2', c2'', rfl, hl2, hc2, hr2, hbel⟩
             have hblk : Blk w1 wr.heap.size 31 _ := Blk.below (Blk.new wr _ [_, _, _, _, _]) hbel (by simp)
             obtain ⟨q0, q1, q2, q3, q4⟩ := blk_cells5 hblk
             have hz : wr.heap.size < w1.heap.size := hblk.lt
             have HBEL1 : Hid (Below wr.heap.size wr w1) := ((Below.refl _ wr).alloc (Nat.le_refl _) _).trans (hbel.mono (by simp))
             have HR2 := Lib.hid hr2
             have HL2 := Lib.hid hl2
             clear hblk hbel hr2 hl2 c0 c1 c2' c3 c4))
        | (go_at_call 12
           go_must (
             (refine (HSX.out _).mono ?_)
             rintro e w2 ⟨rfl, hbel2⟩
             have HBEL2 : Hid (Below w1.heap.size w1 w2) := ((Below.refl _ w1).alloc (Nat.le_refl _) _).trans (hbel2.mono (by simp))
             clear hbel2)))
      go_roundw
      case rel =>
        refine ⟨k + 1, A2', c2'', R.length, by omega, by go_num, rfl, by rw [HRR.out], HL2.out, hc2, ?_, ?_⟩
        · rw [← HRR.out]
          exact HR2.out.below (HBEL2.out.mono (by omega))
        · have := HBR.out.size
          exact (HBR.out.trans (HBEL1.out.mono this)).trans (HBEL2.out.mono (by omega))
      case measure => simp [intOf]; omega
    · obtain rfl : k = l.length := by omega
      have h0 : N = 0 := by rw [hrest.out.1, List.drop_length]; rfl
      subst h0
      have HBR := Lib.hid hrest.out.2.2.2.2
      clear hrest
      go_wp2
      go_ret
      exact ⟨rfl, HBR.out⟩
end Go.Proofs.YtohainhkplombaaDoor
