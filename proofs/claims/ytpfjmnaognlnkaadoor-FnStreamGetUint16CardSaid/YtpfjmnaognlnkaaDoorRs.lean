/- laws.allWritten: values without values in them, one behind the other, in forms that are chosen; spec.PutPack at a bool. -/
import Derived.Test.YtpfjmnaognlnkaaDoorRf
namespace Go.Proofs.YtpfjmnaognlnkaaDoor
open Go.RowKit
set_option linter.unusedVariables false

/-- The cells of a value without values in it. -/
def c5A (k u : Int) : List Value := [.int .i64 k, .int .u64 u, .string ⟨#[]⟩, .int .i64 0, .slice none 0 0]
/-- A list of such values: what stands in its cells. -/
def WantsA {α : Type} (W : World) (B : Nat) (A : Option Addr) (l : List α) (wk wu : α → Int) : Prop :=
  0 < l.length → ∃ g, A = some ⟨g, 0, none⟩ ∧ g < B ∧ ∀ (k : Nat) (hk : k < l.length), ∀ (j : Nat) (u : Value), (c5A (wk l[k]) (wu l[k]))[j]? = some u → W.cell? ⟨g, k * 5 + j, none⟩ = some u
theorem WantsA.below {α : Type} {W W' : World} {B : Nat} {A : Option Addr} {l : List α} {wk wu : α → Int} (h : WantsA W B A l wk wu) (hb : Below B W W') : WantsA W' B A l wk wu := fun h0 => by
  obtain ⟨g, hA, hg, hc⟩ := h h0
  exact ⟨g, hA, hg, fun k hk j u hu => (hb.cell (p := ⟨g, k * 5 + j, none⟩) hg).trans (hc k hk j u hu)⟩
/-- What a value's own call writes. -/
def Put1 (gf m : Nat) (F : List Int → Prop) (W : World) (e : Ending) (W' : World) : Prop :=
  ∃ enc A c st', e = .returned (.slice A enc.length c) ∧ F enc ∧ enc.length ≤ m ∧ enc.length ≤ c ∧ c ≤ maxLen ∧ Reads W' W'.heap.size 1 A enc.length (bs enc) ∧ Blk W' gf 50 [.int .u64 st', .bool false] ∧ W.grownBy W' (some gf)
theorem grown_drewN {W W2 : World} {row : Option Nat} {n : Nat} (h : (W.drewN n).grownBy W2 row) : W.grownBy W2 row := ⟨h.os, h.tape, h.output, h.size, h.block⟩
theorem grown_trans {a b c : World} {row : Option Nat} (h : a.grownBy b row) (h2 : b.grownBy c row) : a.grownBy c row :=
  ⟨h2.os.trans h.os, h2.tape.trans h.tape, h2.output.trans h.output, Nat.le_trans h.size h2.size, fun k hk hn => (h2.block k (Nat.lt_of_lt_of_le hk h.size) hn).trans (h.block k hk hn)⟩
theorem grown_none {a b : World} {row : Option Nat} (h : a.grownBy b none) : a.grownBy b row := ⟨h.os, h.tape, h.output, h.size, fun k hk _ => h.block k hk (by simp)⟩
theorem below_grown {a b : World} (h : Below a.heap.size a b) (row : Option Nat) : a.grownBy b row := ⟨h.os, h.tape, h.output, h.size, fun k hk _ => h.block k hk⟩
theorem own_ne {w : World} {base n g : Nat} {e t : TypeId} {size : Nat} {v : Value} {xs : List Value} {cs : List Value} (h : w.ownsRow base e size v n xs) (hg : Blk w g t cs) (hne : e ≠ t) : v.ownBlock ≠ some g := by
  intro hv
  rcases h.2 with ⟨rfl, _⟩ | ⟨g', cap, cur, rfl, _, hb, _⟩
  · simp [Value.ownBlock] at hv
  · simp [Value.ownBlock] at hv
    subst hv
    have h1 := hb.symm.trans hg
    injection h1 with h1
    injection h1 with _ h2
    exact hne h2
theorem flatten_snoc (ds : List (List Int)) (e : List Int) : (ds ++ [e]).flatten = ds.flatten ++ e := by simp

set_option maxHeartbeats 4000000 in
set_option maxRecDepth 100000 in
theorem allWritten_calls {α : Type} (F : α → List Int → Prop) (P : α → Prop) (wk wu : α → Int) (m : Nat) (hm1 : m ≤ 100000)
    (HP : ∀ (W : World) (gf : Nat) (st : Int) (x : α), P x → Blk W gf 50 [.int .u64 st, .bool false] → Calls Tryd.prog 14 #[.agg #[.int .i64 (wk x), .int .u64 (wu x), .string ⟨#[]⟩, .int .i64 0, .slice none 0 0], .pointer (some ⟨gf, 0, none⟩)] W (Put1 gf m (F x) W))
    (w : World) (A : Option Addr) (c : Nat) (st : Int) (l : List α) (h : WantsA w w.heap.size A l wk wu) (hl : l.length ≤ 100) (hP : ∀ x ∈ l, P x) :
    Calls Tryd.prog 6 #[.slice A l.length c, .int .u64 st] w fun e w' => ∃ ds d A' c', d = ds.flatten ∧ e = .returned (.slice A' d.length c') ∧ Frms F l ds ∧ Reads w' w'.heap.size 1 A' d.length (bs d) ∧ d.length ≤ m * l.length ∧ d.length ≤ c' ∧ c' ≤ maxLen ∧ Below w.heap.size w w' := by
  obtain ⟨i0, hi0, hz0, hz1, hz2⟩ := info_parts infoU8
  have H := Lib.hid h
  have HPP := Lib.hid HP
  have HPX := Lib.hid hP
  clear h HP hP
  go_enter Tryd.func6, Tryd.ntmps6
  go_wp2
  go_loopw [6, 14] (fun v i wr => ∃ (k N c' : Nat) (A' : Option Addr), k ≤ l.length ∧ i = .int .i64 k ∧ v = .slice A' N c' ∧ N ≤ m * k ∧ Hid (∃ ds d st', d = ds.flatten ∧ N = d.length ∧ Frms F (l.take k) ds ∧ wr.ownsRow w.heap.size 5 1 (.slice A' N c') N (bs d) ∧ Blk wr w.heap.size 50 [.int .u64 st', .bool false] ∧ Below w.heap.size w wr)) (fun _ i _ => l.length - (intOf i).toNat)
  case atStart => exact ⟨0, 0, 0, none, Nat.zero_le _, rfl, rfl, Nat.zero_le _, [], [], st, rfl, rfl, trivial, ⟨by simp [bs], .inl ⟨rfl, rfl⟩⟩, Blk.new w _ [_, _], (Below.refl _ w).alloc (Nat.le_refl _) _⟩
  case round =>
    obtain ⟨k, N, c', A', hk, rfl, rfl, hNk, hrest⟩ := hrel
    obtain ⟨ds, d, st', hd, hN, hf, hown, hblk, hbel⟩ := hrest.out
    have HFD := Lib.hid (And.intro hd (And.intro hN hf))
    have HOWN := Lib.hid hown
    have HBLK := Lib.hid hblk
    have HBEL := Lib.hid hbel
    have hwz : w.heap.size < wr.heap.size := hblk.lt
    clear hrest hd hN hf hown hblk hbel
    by_cases hlt : k < l.length
    · obtain ⟨g, hA2, hgB, hcells⟩ := H.out (by omega)
      subst hA2
      have hck := hcells k hlt
      have hx : l[k] ∈ l := List.getElem_mem hlt
      have hts : l.take (k + 1) = l.take k ++ [l[k]] := by rw [List.take_succ_eq_append_getElem hlt]
      have cf : ∀ j u, (c5A (wk l[k]) (wu l[k]))[j]? = some u → wr.cell? ⟨g, k * 5 + j, none⟩ = some u := fun j u hu => (HBEL.out.cell (p := ⟨g, k * 5 + j, none⟩) hgB).trans (hck j u hu)
      have c0 := cf 0 _ rfl
      have c1 := cf 1 _ rfl
      have c2' := cf 2 _ rfl
      have c3 := cf 3 _ rfl
      have c4 := cf 4 _ rfl
      rw [Nat.add_zero] at c0
      have hm2 : m * k ≤ 10000000 := Nat.le_trans (Nat.mul_le_mul hm1 (show k ≤ 100 by omega)) (by omega)
      generalize l[k] = x at *
      have HTS := Lib.hid hts
      have HX : Hid (x ∈ l) := hx
      clear hck cf hcells hx hts
      go_wp2_with (first
        | (go_at_call 14
           go_must (
             (refine (HPP.out _ w.heap.size st' x (HPX.out x HX.out) (HBLK.out.alloc _)).mono ?_)
             rintro e w1 ⟨enc, A1, c1', st1, rfl, hfx, hem, hec, hcm, hrd, hb1, hg1⟩
             have hown1 : w1.ownsRow w.heap.size 5 1 (.slice A' N c') N _ := (HOWN.out.alloc _).kept hg1 (.inr (own_ne HOWN.out HBLK.out (by decide)))
             have hbel1 : Below w.heap.size w w1 := (HBEL.out.alloc (by omega) _).grown hg1 (by simp; omega) (fun r hr => by injection hr with hr; omega)
             have hwz1 : w.heap.size < w1.heap.size := hb1.lt
             have HFX := Lib.hid hfx
             have HRD := Lib.hid hrd
             have HB1 := Lib.hid hb1
             have HOWN1 := Lib.hid hown1
             have HBEL1 := Lib.hid hbel1
             clear hfx hrd hb1 hg1 hown1 hbel1 c0 c1 c2' c3 c4))
        | ((at_builtin)
           go_must (
             (refine wpList_append_any _ rfl (.tmp 18) (.tmp 21) 27 rfl w.heap.size 5 i0 _ 1 1 Tryd.underlying27 hi0 hz0 hz1 hz2 rfl (by omega) (.slice A' N c') N _ rfl HOWN1.out w1.heap.size A1 enc.length c1' (bs enc) rfl HRD.out (bs_one _) (by simp only [maxLen]; omega) (by omega) (by omega) ?_)
             intro v1 w3 hown3 hg3 hat3
             obtain ⟨A3, c3', rfl, _, _⟩ := own_formR hown3
             have hne := own_ne HOWN1.out HB1.out (by decide)
             have hb3 := HB1.out.grown hg3 (fun e => hne e.symm)
             have hbel3 := HBEL1.out.grown hg3 (by omega) (fun j hj => (HOWN1.out.lt j hj).1)
             have HO3 := Lib.hid hown3
             have HB3 := Lib.hid hb3
             have HBEL3 := Lib.hid hbel3
             clear hown3 hg3 hat3 hne hb3 hbel3)))
      go_roundw
      case rel =>
        obtain ⟨hd, hN, hf⟩ := HFD.out
        refine ⟨k + 1, N + enc.length, c3', A3, by omega, by go_num, rfl, by rw [Nat.mul_succ]; omega, ds ++ [enc], d ++ enc, st1, by rw [flatten_snoc, hd], by rw [List.length_append, hN], ?_, ?_, HB3.out, HBEL3.out⟩
        · rw [HTS.out]; exact hf.snoc HFX.out
        · rw [bs_append]; exact HO3.out
      case measure => simp [intOf]; omega
    · obtain rfl : k = l.length := by omega
      go_wp2
      go_ret
      obtain ⟨hd, hN, hf⟩ := HFD.out
      rw [List.take_length] at hf
      obtain ⟨A9, c9, hv9, h8, h9⟩ := own_formR HOWN.out
      injection hv9 with e1 e2 e3
      subst e3
      have hrd := Reads.of_own HOWN.out
      subst hN
      exact ⟨ds, d, A', c', hd, rfl, hf, hrd, hNk, h8, h9, HBEL.out⟩

end Go.Proofs.YtpfjmnaognlnkaaDoor
