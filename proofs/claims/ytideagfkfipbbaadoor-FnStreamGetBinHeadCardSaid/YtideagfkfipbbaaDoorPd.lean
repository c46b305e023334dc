/- spec.PutHead at bytes; laws.headsWritten. -/
import Derived.Test.YtideagfkfipbbaaDoorPc
import Derived.Test.YtideagfkfipbbaaDoorRs
namespace Go.Proofs.YtideagfkfipbbaaDoor
open Go.RowKit
set_option linter.unusedVariables false

/-- A head of bytes, in a form that is chosen. -/
def FrmBin (n : Int) (enc : List Int) : Prop := HeadF n [(196, 1), (197, 2), (198, 4)] enc ∧ 0 ≤ n ∧ n ≤ 4294967295
theorem headF_len {n : Int} {fs : List (Int × Nat)} {enc : List Int} {m : Nat} (h : HeadF n fs enc) (hm : ∀ p ∈ fs, p.2 + 1 ≤ m) : enc.length ≤ m := by
  obtain ⟨p, hp, _, rfl⟩ := h
  rw [List.length_cons, be_length]
  exact hm p hp
set_option maxHeartbeats 2000000 in
set_option maxRecDepth 100000 in
theorem PutHead_bin (W : World) (gf : Nat) (st n : Int) (h0 : 0 ≤ n) (h1 : n ≤ 4294967295) (hb : Blk W gf 51 [.int .u64 st, .bool false]) :
    Calls Tryd.prog 20 #[.int .i64 7, .int .u32 n, .pointer (some ⟨gf, 0, none⟩)] W (Put1 gf 5 (FrmBin n) W) := by
  obtain ⟨k, rfl⟩ : ∃ k : Nat, n = k := ⟨n.toNat, by omega⟩
  have hok : 0 < (([(196, 1), (197, 2), (198, 4)] : List (Int × Nat)).filter (okF (k : Int))).length := by
    apply List.length_pos_of_mem (a := (198, 4))
    refine List.mem_filter.2 ⟨by simp, ?_⟩
    simp only [okF, Bool.or_eq_true, decide_eq_true_eq]
    right
    have : (2 : Int) ^ (8 * 4) = 4294967296 := by decide
    rw [this]
    omega
  obtain ⟨w1, hw1⟩ : ∃ w1, w1 = W.alloc (.cells #[.int .i64 196, .int .i64 (1 : Nat), .int .i64 197, .int .i64 (2 : Nat), .int .i64 198, .int .i64 (4 : Nat)] 70) := ⟨_, rfl⟩
  have hz : w1.heap.size = W.heap.size + 1 := by rw [hw1]; simp
  have hwl : WantsF w1 w1.heap.size (some ⟨W.heap.size, 0, none⟩) [(196, 1), (197, 2), (198, 4)] := by
    rw [hz, hw1]
    exact wantsF_lit W [(196, 1), (197, 2), (198, 4)]
  have hb1 : Blk w1 gf 51 [.int .u64 st, .bool false] := by rw [hw1]; exact hb.alloc _
  have hph := putHead_plain w1 gf 3 k st (-1) 0 false (some ⟨W.heap.size, 0, none⟩) [(196, 1), (197, 2), (198, 4)] hb1 (by omega) hwl (by simp) (by simp) (.inl (by omega)) hok
  have hg0 : W.grownBy w1 (some gf) := by rw [hw1]; exact World.grownBy_alloc _ _ _
  rw [hw1] at hph
  have HP := Lib.hid hph
  have HG0 := Lib.hid hg0
  have HW1 := Lib.hid hw1
  clear hb hok hz hwl hb1 hph hg0 hw1
  go_enter Tryd.func20, Tryd.ntmps20
  go_wp2_with (
    (go_at_call 27)
    go_must (
      (refine HP.out.mono ?_)
      rintro e w2 ⟨enc, A2, c2, st2, rfl, hf2, hown2, hb2, hg2⟩
      rw [← HW1.out] at hg2
      have HF2 := Lib.hid hf2
      have HO2 := Lib.hid hown2
      have HB2 := Lib.hid hb2
      have HG2 := Lib.hid hg2
      clear hf2 hown2 hb2 hg2))
  go_ret
  obtain ⟨A9, c9, hv9, h8, h9⟩ := own_formR HO2.out
  injection hv9 with e1 e2 e3
  subst e3
  exact ⟨enc, A2, c2, st2, rfl, ⟨HF2.out, by omega, by omega⟩, headF_len HF2.out (by simp), h8, h9, Reads.of_own HO2.out, HB2.out, grownP_trans HG0.out HG2.out⟩

set_option maxHeartbeats 4000000 in
set_option maxRecDepth 100000 in
theorem headsWritten_calls (w : World) (A : Option Addr) (c : Nat) (st : Int) (l : List Int) (h : Reads w w.heap.size 1 A l.length (l.map (Value.int .u32))) (hl : l.length ≤ 100) (hP : ∀ x ∈ l, 0 ≤ x ∧ x ≤ 4294967295) :
    Calls Tryd.prog 11 #[.int .i64 7, .slice A l.length c, .int .u64 st] w fun e w' => ∃ ds d A' c', d = ds.flatten ∧ e = .returned (.slice A' d.length c') ∧ Frms FrmBin l ds ∧ Reads w' w'.heap.size 1 A' d.length (bs d) ∧ d.length ≤ 5 * l.length ∧ d.length ≤ c' ∧ c' ≤ maxLen ∧ Below w.heap.size w w' := by
  obtain ⟨i0, hi0, hz0, hz1, hz2⟩ := info_parts infoU8
  have H := Lib.hid h
  have HPX := Lib.hid hP
  clear h hP
  go_enter Tryd.func11, Tryd.ntmps11
  go_wp2
  go_loopw [8, 16] (fun v i wr => ∃ (k N c' : Nat) (A' : Option Addr), k ≤ l.length ∧ i = .int .i64 k ∧ v = .slice A' N c' ∧ N ≤ 5 * k ∧ Hid (∃ ds d st', d = ds.flatten ∧ N = d.length ∧ Frms FrmBin (l.take k) ds ∧ wr.ownsRow w.heap.size 5 1 (.slice A' N c') N (bs d) ∧ Blk wr w.heap.size 51 [.int .u64 st', .bool false] ∧ Below w.heap.size w wr)) (fun _ i _ => l.length - (intOf i).toNat)
  case atStart => exact ⟨0, 0, 0, none, Nat.zero_le _, rfl, rfl, Nat.zero_le _, [], [], st, rfl, rfl, trivial, ⟨by simp [bs], .inl ⟨rfl, rfl⟩⟩, Blk.new w _ [_, _], (Below.refl _ w).alloc (Nat.le_refl _) _⟩
  case round =>
    obtain ⟨k, N, c', A', hk, rfl, rfl, hNk, hrest⟩ := hrel
    obtain ⟨ds, d, st', hd, hN, hf, hown, hblk, hbel⟩ := hrest.out
    have HFD := Lib.hid (And.intro hd (And.intro hN hf))
    have HOWN := Lib.hid hown
    have HBLK := Lib.hid hblk
    have HBEL := Lib.hid hbel
    have hwz : w.heap.size < wr.heap.size := hblk.lt
    clear hrest hd hN hf hown hblk hbel
    by_cases hlt : k < l.length
    · obtain ⟨ad, u, hA, hadB, hu, hcell0⟩ := H.out.at_ hlt
      have hv : u = .int .u32 l[k] := by
        have := hu.symm.trans (show (l.map (Value.int .u32))[k]? = some (.int .u32 l[k]) by rw [List.getElem?_map, List.getElem?_eq_getElem hlt]; rfl)
        injection this
      subst hA hv
      have hcell : wr.cell? (ad.add k) = some (.int .u32 l[k]) := (HBEL.out.cell (by rw [block_of_add]; exact hadB)).trans hcell0
      obtain ⟨hx0, hx1⟩ := HPX.out l[k] (List.getElem_mem hlt)
      have hts : l.take (k + 1) = l.take k ++ [l[k]] := by rw [List.take_succ_eq_append_getElem hlt]
      generalize l[k] = x at *
      have HTS := Lib.hid hts
      clear hts hu hcell0
      go_wp2_with (first
        | (go_at_call 20
           go_must (
             (refine (PutHead_bin _ w.heap.size st' x hx0 hx1 HBLK.out).mono ?_)
             rintro e w1 ⟨enc, A1, c1', st1, rfl, hfx, hem, hec, hcm, hrd, hb1, hg1⟩
             have hown1 : w1.ownsRow w.heap.size 5 1 (.slice A' N c') N _ := HOWN.out.kept hg1 (.inr (own_ne HOWN.out HBLK.out (by decide)))
             have hbel1 : Below w.heap.size w w1 := HBEL.out.grown hg1 (by omega) (fun r hr => by injection hr with hr; omega)
             have hwz1 : w.heap.size < w1.heap.size := hb1.lt
             have HFX := Lib.hid hfx
             have HRD := Lib.hid hrd
             have HB1 := Lib.hid hb1
             have HOWN1 := Lib.hid hown1
             have HBEL1 := Lib.hid hbel1
             clear hfx hrd hb1 hg1 hown1 hbel1))
        | ((at_builtin)
           go_must (
             (refine wpList_append_any _ rfl (.tmp 20) (.tmp 24) 26 rfl w.heap.size 5 i0 _ 1 1 Tryd.underlying26 hi0 hz0 hz1 hz2 rfl (by omega) (.slice A' N c') N _ rfl HOWN1.out w1.heap.size A1 enc.length c1' (bs enc) rfl HRD.out (bs_one _) (by simp only [maxLen]; omega) (by omega) (by omega) ?_)
             intro v1 w3 hown3 hg3 hat3
             obtain ⟨A3, c3', rfl, _, _⟩ := own_formR hown3
             have hne := own_ne HOWN1.out HB1.out (by decide)
             have hb3 := HB1.out.grown hg3 (fun e => hne e.symm)
             have hbel3 := HBEL1.out.grown hg3 (by omega) (fun j hj => (HOWN1.out.lt j hj).1)
             have HO3 := Lib.hid hown3
             have HB3 := Lib.hid hb3
             have HBEL3 := Lib.hid hbel3
             clear hown3 hg3 hat3 hne hb3 hbel3)))
      go_roundw
      case rel =>
        obtain ⟨hd, hN, hf⟩ := HFD.out
        refine ⟨k + 1, N + enc.length, c3', A3, by omega, by go_num, rfl, by omega, ds ++ [enc], d ++ enc, st1, by rw [flatten_snoc, hd], by rw [List.length_append, hN], ?_, ?_, HB3.out, HBEL3.out⟩
        · rw [HTS.out]; exact hf.snoc HFX.out
        · rw [bs_append]; exact HO3.out
      case measure => simp [intOf]; omega
    · obtain rfl : k = l.length := by omega
      go_wp2
      go_ret
      obtain ⟨hd, hN, hf⟩ := HFD.out
      rw [List.take_length] at hf
      obtain ⟨A9, c9, hv9, h8, h9⟩ := own_formR HOWN.out
      injection hv9 with e1 e2 e3
      subst e3
      have hrd := Reads.of_own HOWN.out
      subst hN
      exact ⟨ds, d, A', c', hd, rfl, hf, hrd, hNk, h8, h9, HBEL.out⟩
end Go.Proofs.YtideagfkfipbbaaDoor
