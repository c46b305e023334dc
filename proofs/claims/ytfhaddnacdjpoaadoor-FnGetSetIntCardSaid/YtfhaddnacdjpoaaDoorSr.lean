/- spec.PutPack at an array of integers. PRINTED by wip/gensr.py. -/
import Derived.Test.YtfhaddnacdjpoaaDoorEm
namespace Go.Proofs.YtfhaddnacdjpoaaDoor
open Go.RowKit
set_option linter.unusedVariables false

theorem infoPackS : (Tryd.prog.info? 30).map (fun i => (i.zero, i.size, i.bytes)) = some (some (.agg #[.int .i64 0, .int .u64 0, .string ⟨#[]⟩, .int .i64 0, .slice none 0 0]), 5, 64) := by kernel_rfl
def n5 (k u : Int) : List Value := [.int .i64 k, .int .u64 u, .string ⟨#[]⟩, .int .i64 0, .slice none 0 0]
theorem n5_one (k u : Int) : ∀ v ∈ n5 k u, v.oneCell' = true := by
  intro v hv
  simp only [n5, List.mem_cons, List.not_mem_nil, or_false] at hv
  rcases hv with rfl | rfl | rfl | rfl | rfl <;> rfl
theorem reads_fiveS (w : World) (k u : Int) (t : TypeId) : Reads (w.alloc (.cells #[.int .i64 k, .int .u64 u, .string ⟨#[]⟩, .int .i64 0, .slice none 0 0] t)) (w.heap.size + 1) 5 (some ⟨w.heap.size, 0, none⟩) 1 (n5 k u) := by
  refine ⟨rfl, fun _ => ⟨_, rfl, by simp, fun j v hv => ?_⟩⟩
  rw [add_lit, Nat.zero_add]
  exact ((Blk.new w t (n5 k u)).cell j).trans hv
theorem reads_five2 (w : World) (o : Obj) (k u : Int) (t : TypeId) : Reads ((w.alloc o).alloc (.cells #[.int .i64 k, .int .u64 u, .string ⟨#[]⟩, .int .i64 0, .slice none 0 0] t)) (w.heap.size + 2) 5 (some ⟨w.heap.size + 1, 0, none⟩) 1 (n5 k u) := by
  have h := reads_fiveS (w.alloc o) k u t
  simpa using h
theorem own_setS {w : World} {base gb n i sz : Nat} {e : TypeId} {v u : Value} {xs : List Value} (h : w.ownsRow base e sz v n xs) (hne : some gb ≠ v.ownBlock) : (w.setCell ⟨gb, i, none⟩ u).ownsRow base e sz v n xs :=
  h.kept (row := some gb) ⟨rfl, rfl, rfl, by simp, fun k _ hk => heap_setCell_other w ⟨gb, i, none⟩ k u (fun e => hk (by simp [e]))⟩ (.inr (fun e => hne e.symm))
theorem own_set5S {w : World} {base p n sz : Nat} {t : TypeId} {v : Value} {xs : List Value} (h : w.ownsRow base t sz v n xs) (hne : some p ≠ v.ownBlock) (a b c d e : Value) : (((((w.setCell ⟨p, 0, none⟩ a).setCell ⟨p, 1, none⟩ b).setCell ⟨p, 2, none⟩ c).setCell ⟨p, 3, none⟩ d).setCell ⟨p, 4, none⟩ e).ownsRow base t sz v n xs :=
  own_setS (own_setS (own_setS (own_setS (own_setS h hne) hne) hne) hne) hne
theorem own_belowS {w w' : World} {base n sz : Nat} {t : TypeId} {v : Value} {xs : List Value} (h : w.ownsRow base t sz v n xs) (hb : Below w.heap.size w w') : w'.ownsRow base t sz v n xs :=
  h.kept (row := none) ⟨hb.os, hb.tape, hb.output, hb.size, fun k hk _ => hb.block k hk⟩ (by cases hv : v.ownBlock <;> simp)
theorem far_set5 {W : World} {g p : Nat} {t : TypeId} {cs : List Value} (h : Blk W g t cs) (hp : g ≠ p) (a b c d e : Value) : Blk (((((W.setCell ⟨p, 0, none⟩ a).setCell ⟨p, 1, none⟩ b).setCell ⟨p, 2, none⟩ c).setCell ⟨p, 3, none⟩ d).setCell ⟨p, 4, none⟩ e) g t cs :=
  ((((h.far hp a).far hp b).far hp c).far hp d).far hp e
theorem flat_snocS (f : Int → List Value) (l : List Int) (k : Nat) (h : k < l.length) : (l.take (k + 1)).flatMap f = (l.take k).flatMap f ++ f (l.getD k 0) := by
  rw [show l.take (k + 1) = l.take k ++ [l.getD k 0] by rw [List.take_add_one, List.getElem?_eq_getElem h, List.getD, List.getElem?_eq_getElem h]; rfl, List.flatMap_append, List.flatMap_cons, List.flatMap_nil, List.append_nil]
def KRow (w : World) (A : Option Addr) (n : Nat) (xs : List Value) : Prop := 0 < n → ∃ g, A = some ⟨g, 0, none⟩ ∧ g < w.heap.size ∧ ∀ i u, xs[i]? = some u → w.cell? ⟨g, i, none⟩ = some u
theorem KRow.of_own {w : World} {base n c : Nat} {A : Option Addr} {t : TypeId} {xs : List Value} (h : w.ownsRow base t 5 (.slice A n c) n xs) : KRow w A n xs := by
  intro hn
  have hr := Reads.of_own h
  rcases h.2 with ⟨hv, h0⟩ | ⟨g, cap, cur, hv, _⟩
  · omega
  · cases hv
    obtain ⟨ad, had, hb, hc⟩ := hr.2 hn
    cases had
    refine ⟨g, rfl, hb, fun i u hu => ?_⟩
    have := hc i u hu
    rwa [add_lit, Nat.zero_add] at this
theorem flat5A_length {α : Type} (l : List α) (g : α → List Value) (hg : ∀ x, (g x).length = 5) : (l.flatMap g).length = l.length * 5 := by
  induction l with
  | nil => rfl
  | cons x xs ih => rw [List.flatMap_cons, List.length_append, hg, ih, List.length_cons]; omega
theorem flat5A_at {α : Type} (l : List α) (g : α → List Value) (hg : ∀ x, (g x).length = 5) : ∀ (k : Nat) (hk : k < l.length), ∀ j, j < 5 → (l.flatMap g)[k * 5 + j]? = (g l[k])[j]? := by
  induction l with
  | nil => intro k hk; simp at hk
  | cons x xs ih =>
    intro k hk j hj
    rw [List.flatMap_cons]
    cases k with
    | zero => rw [List.getElem?_append_left (by rw [hg]; omega)]; simp
    | succ k =>
      rw [List.getElem?_append_right (by rw [hg]; omega), hg]
      have := ih k (by simpa using hk) j hj
      rw [show (k + 1) * 5 + j - 5 = k * 5 + j by omega, this]
      simp

/-- A value of an array that is read as a row of such. -/
def kidT (kd u : Int) : PT := .mk kd u ⟨#[]⟩ 0 0 (fun _ => .nil)
theorem kidT_cnt (kd u : Int) : (kidT kd u).cnt = 1 := by simp [kidT, PT.cnt, sumN]
theorem sumN_one (f : Nat → Nat) (h : ∀ i, f i = 1) : ∀ n, sumN f n = n
  | 0 => rfl
  | n + 1 => by rw [sumN, sumN_one f h n, h]
theorem fp_two {x u : Int} {enc : List Int} (hu : wrap64 u = x) (h : IntF x enc) : FP (kidT 2 u) enc := by
  obtain ⟨h0, h1⟩ := intF_len h
  refine ⟨⟨fun e => absurd (show (2 : Int) = 0 from e) (by decide), fun e => absurd (show (2 : Int) = 1 from e) (by decide), fun _ => ?_, fun e => absurd (show (2 : Int) = 3 from e) (by decide), fun e => absurd (show (2 : Int) = 4 from e) (by decide), fun e => absurd (show (2 : Int) = 5 from e) (by decide), fun e => absurd (show (2 : Int) = 6 from e) (by decide), fun e => absurd (show (7 : Int) ≤ 2 from e) (by decide)⟩, h0, ?_⟩
  · show IntF (wrap64 u) enc
    rw [hu]; exact h
  · rw [kidT_cnt]; omega
theorem fp_three {u : Int} {enc : List Int} (h : IntF u enc) : FP (kidT 3 u) enc := by
  obtain ⟨h0, h1⟩ := intF_len h
  refine ⟨⟨fun e => absurd (show (3 : Int) = 0 from e) (by decide), fun e => absurd (show (3 : Int) = 1 from e) (by decide), fun e => absurd (show (3 : Int) = 2 from e) (by decide), fun _ => h, fun e => absurd (show (3 : Int) = 4 from e) (by decide), fun e => absurd (show (3 : Int) = 5 from e) (by decide), fun e => absurd (show (3 : Int) = 6 from e) (by decide), fun e => absurd (show (7 : Int) ≤ 3 from e) (by decide)⟩, h0, ?_⟩
  rw [kidT_cnt]; omega
/-- What a value of a list asks of the reference's writer. -/
def PutsI (gf : Nat) (sh : Bool) (kd u x : Int) : Prop := (0 ≤ u ∧ u ≤ 18446744073709551615) ∧ -9223372036854775808 ≤ kd ∧ kd ≤ 9223372036854775807 ∧ ∀ (W3 : World) (st3 : Int) (Ai : Option Addr) (ci : Nat), Blk W3 gf 34 [.int .u64 st3, .bool sh] → Calls Tryd.prog 7 #[vP (kidT kd u) Ai ci, .pointer (some ⟨gf, 0, none⟩)] W3 (PutH gf sh (fun enc => FP (kidT kd u) enc ∧ IntF x enc) W3)
theorem putsI_two (gf : Nat) (sh : Bool) (x : Int) (h0 : -9223372036854775808 ≤ x) (h1 : x ≤ 9223372036854775807) : PutsI gf sh 2 (IntKind.u64.wrap x) x := by
  have hw : IntKind.u64.wrap x = x % 18446744073709551616 := IntKind.wrap_u64 x
  refine ⟨by rw [hw]; omega, by decide, by decide, fun W3 st3 Ai ci hb => ?_⟩
  by_cases hx : x < 0
  · have e : IntKind.u64.wrap x = x + 18446744073709551616 := by rw [hw]; omega
    rw [e]
    refine (PP_neg W3 gf st3 (x + 18446744073709551616) 0 sh ⟨#[]⟩ 0 ci Ai x rfl h0 hx hb).mono ?_
    rintro e W' ⟨enc, A, c, st', rfl, hf, r⟩
    exact ⟨enc, A, c, st', rfl, ⟨fp_two (by unfold wrap64; omega) hf, hf⟩, r⟩
  · have e : IntKind.u64.wrap x = x := by rw [hw]; omega
    rw [e]
    refine (PP_pos W3 gf st3 x 0 sh ⟨#[]⟩ 0 ci Ai x rfl (by omega) (by omega) hb).mono ?_
    rintro e W' ⟨enc, A, c, st', rfl, hf, r⟩
    exact ⟨enc, A, c, st', rfl, ⟨fp_two (by unfold wrap64; omega) hf, hf⟩, r⟩
theorem putsI_three (gf : Nat) (sh : Bool) (x : Int) (h0 : 0 ≤ x) (h1 : x ≤ 18446744073709551615) : PutsI gf sh 3 x x := by
  refine ⟨⟨h0, h1⟩, by decide, by decide, fun W3 st3 Ai ci hb => ?_⟩
  refine (PP_uint W3 gf st3 x 0 sh ⟨#[]⟩ 0 ci Ai x rfl h0 h1 hb).mono ?_
  rintro e W' ⟨enc, A, c, st', rfl, hf, r⟩
  exact ⟨enc, A, c, st', rfl, ⟨fp_three hf, hf⟩, r⟩

theorem putArr (B : Nat) (W : World) (gf : Nat) (st kd : Int) (sh : Bool) (n c : Nat) (A : Option Addr) (U : Int → Int) (l : List Int) (hn : n = l.length) (hl : n ≤ 100) (hB : B ≤ W.heap.size) (hgf : B ≤ gf) (hc : n ≤ c) (hcm : c ≤ maxLen) (hb : Blk W gf 34 [.int .u64 st, .bool sh])
    (hrow : 0 < n → ∃ g, A = some ⟨g, 0, none⟩ ∧ g < B ∧ ∀ i u, (l.flatMap fun x => n5 kd (U x))[i]? = some u → W.cell? ⟨g, i, none⟩ = some u) (hp : ∀ x ∈ l, PutsI gf sh kd (U x) x) :
    Calls Tryd.prog 7 #[.agg #[.int .i64 8, .int .u64 0, .string ⟨#[]⟩, .int .i64 0, .slice A n c], .pointer (some ⟨gf, 0, none⟩)] W (PutH gf sh (KidsF ((n : Nat) : Int) 144 [(220, 2), (221, 4)] n (fun i e => IntF (l.getD i 0) e)) W) := by
  have hmem : ∀ i, i < n → l.getD i 0 ∈ l := fun i hi => by
    have : i < l.length := by omega
    simp [List.getD, this]
  have htr : TR W B (.mk 8 0 ⟨#[]⟩ 0 n fun i => kidT kd (U (l.getD i 0))) A c := by
    refine ⟨⟨(by show (-9223372036854775808 : Int) ≤ 8; decide), (by show (8 : Int) ≤ 9223372036854775807; decide), (by show (0 : Int) ≤ 0; decide), (by show (0 : Int) ≤ 18446744073709551615; decide), (by show (-9223372036854775808 : Int) ≤ 0; decide), (by show (0 : Int) ≤ 9223372036854775807; decide), by simp [PT.s, ByteArray.size]⟩, hc, hcm, fun h0 => ?_⟩
    obtain ⟨g, hA, hg, hcell⟩ := hrow h0
    refine ⟨g, 0, hA, hg, fun i hi => ⟨none, 0, ?_⟩⟩
    have hil : i < l.length := by omega
    have hg5 : ∀ j, j < 5 → W.cell? ⟨g, 0 + i * 5 + j, none⟩ = (n5 kd (U (l.getD i 0)))[j]? := fun j hj => by
      have e := flat5A_at l (fun x => n5 kd (U x)) (fun _ => rfl) i hil j hj
      have e2 : l[i] = l.getD i 0 := by simp [List.getD, hil]
      rw [e2] at e
      rw [Nat.zero_add]
      have hj2 : j < (n5 kd (U (l.getD i 0))).length := hj
      rw [List.getElem?_eq_getElem hj2] at e ⊢
      exact hcell _ _ e
    have hpx := hp _ (hmem i hi)
    refine ⟨hg5 0 (by omega), hg5 1 (by omega), hg5 2 (by omega), hg5 3 (by omega), hg5 4 (by omega), ?_⟩
    exact ⟨⟨hpx.2.1, hpx.2.2.1, hpx.1.1, hpx.1.2, (by show (-9223372036854775808 : Int) ≤ 0; decide), (by show (0 : Int) ≤ 9223372036854775807; decide), by simp [PT.s, ByteArray.size]⟩, Nat.le_refl _, by simp [maxLen], fun h => absurd h (by omega)⟩
  refine (PP_arr B W gf st 0 0 sh ⟨#[]⟩ n c A (fun i => kidT kd (U (l.getD i 0))) (fun i e => IntF (l.getD i 0) e) htr hB hgf hb (by omega) ?_ ?_).mono ?_
  · have : sumN (fun i => (kidT kd (U (l.getD i 0))).cnt) n = n := sumN_one _ (fun i => kidT_cnt _ _) n
    simp only [PT.cnt]
    omega
  · intro i hi W3 st3 Ai ci _ _ hb3
    exact (hp _ (hmem i hi)).2.2.2 W3 st3 Ai ci hb3
  · rintro e W' ⟨enc, A1, c1, st', rfl, hf, r⟩
    exact ⟨enc, A1, c1, st', rfl, hf.2, r⟩
end Go.Proofs.YtfhaddnacdjpoaaDoor
