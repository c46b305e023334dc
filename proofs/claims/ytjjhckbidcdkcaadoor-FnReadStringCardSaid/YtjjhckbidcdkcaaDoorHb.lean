/- A value of AMQP given to a law, opened: what DataW.trod reads lies in memory as TV says. PRINTED by wip/genhb.py. -/
import Derived.Test.YtjjhckbidcdkcaaDoorHa
import Derived.Test.YtjjhckbidcdkcaaDoorOpen
import Derived.ChangeArms
import Derived.ChangeOld
import Derived.WideShapes
namespace Go.Proofs.YtjjhckbidcdkcaaDoor
open Go.RowKit Go.ChangeShapes Go.WideShapes Go.ChangeAt
set_option linter.unusedVariables false

/-- What is shown of a value that is read. -/
def VRead (W : World) (cs : List Value) : Prop := ∃ T A c, cs = cV T A c ∧ T.wf ∧ TV W W.heap.size T A c
set_option maxRecDepth 100000 in
theorem side_of {H : Type} {enc : TypeId × Value → H} {W : World} {base : Nat} {spare : Nat → Bool} {held : Bool} (fuel : Nat)
    (ih : ∀ m, m < fuel → ∀ (cs : List Value) (x : DataW H × List MemPlace), DataW.trod enc Tryd.prog W base spare held m 25 cs = some x → VRead W cs)
    (v : Value) (y : DataW H × List MemPlace) (h : DataW.trod enc Tryd.prog W base spare held fuel 23 [v] = some y) :
    ∃ (A : Option Addr) (len cap : Nat) (f : Nat → VT), v = .slice A len cap ∧ len ≤ cap ∧ cap ≤ maxLen ∧ (0 < len → ∃ g p, A = some ⟨g, p, none⟩ ∧ g < W.heap.size ∧ ∀ i, i < len → ∃ Ai ci, VAt W g (p + i * 6) (f i) Ai ci ∧ TV W W.heap.size (f i) Ai ci) := by
  rcases DataW.trod_slice Tryd.underlying23 h with ⟨h4, _⟩ | ⟨a, len, cap, elems, rest, m, hm, h4, _, hb, hlc, hcm, hel, hch, _⟩
  · obtain rfl : v = .slice none 0 0 := by simpa using h4
    exact ⟨none, 0, 0, fun _ => .nil, rfl, Nat.le_refl _, Nat.zero_le _, fun h => absurd h (by omega)⟩
  · obtain rfl : v = .slice (some a) len cap := by simpa using h4
    have cP : Tryd.prog.cellsOf 25 = 6 := by kernel_rfl
    have hk : ∀ i, ∃ q : VT × (Bool → Option Addr) × (Bool → Nat), i < len → W.cells? base (a.add (i * 6)) 6 = some (cV q.1 q.2.1 q.2.2) ∧ TV W W.heap.size q.1 q.2.1 q.2.2 := by
      intro i
      by_cases hi : i < len
      · have e := hch i hi
        rw [cP] at e
        rw [show elems[i]? = some elems[i] from List.getElem?_eq_getElem (by omega)] at e
        obtain ⟨cs', e1, e2⟩ := Option.bind_eq_some_iff.1 e
        obtain ⟨T, A, c, rfl, _, hT⟩ := ih m (by omega) cs' _ e2
        exact ⟨(T, A, c), fun _ => ⟨e1, hT⟩⟩
      · exact ⟨(.nil, fun _ => none, fun _ => 0), fun h => absurd h hi⟩
    obtain ⟨f, hf⟩ := Classical.axiomOfChoice hk
    refine ⟨some a, len, cap, fun i => (f i).1, rfl, hlc, hcm, fun h0 => ?_⟩
    have hlt : a.block < W.heap.size := by simpa [Addr.add] using World.cells?_block (hf 0 h0).1 (by omega)
    have hsp : a.spot = none := by
      have hc := (World.cells?_some (hf 0 h0).1).2.2 0 (by omega)
      simp only [cV, List.getElem?_cons_zero] at hc
      unfold World.cell? at hc
      split at hc
      · split at hc
        · cases hc
        · rename_i h5
          simpa [Addr.add] using h5
      · cases hc
    obtain ⟨g, p, sp⟩ := a
    simp only at hsp hlt
    subst hsp
    refine ⟨g, p, rfl, hlt, fun i hi => ⟨(f i).2.1, (f i).2.2, ?_⟩⟩
    have hadd : ∀ n, (⟨g, p, none⟩ : Addr).add n = ⟨g, p + n, none⟩ := by intro n; unfold Addr.add; split <;> simp_all
    have hc := (World.cells?_some (hf i hi).1).2.2
    have c0 := hc 0 (by omega)
    have c1 := hc 1 (by omega)
    have c2 := hc 2 (by omega)
    have c3 := hc 3 (by omega)
    have c4 := hc 4 (by omega)
    have c5 := hc 5 (by omega)
    simp only [cV, hadd, List.getElem?_cons_zero, List.getElem?_cons_succ] at c0 c1 c2 c3 c4 c5
    exact ⟨⟨c0, c1, c2, c3, c4, c5⟩, (hf i hi).2⟩
set_option maxRecDepth 100000 in
theorem treeV_of {H : Type} {enc : TypeId × Value → H} {W : World} {base : Nat} {spare : Nat → Bool} {held : Bool} : ∀ (fuel : Nat) (cs : List Value) (x : DataW H × List MemPlace),
    DataW.trod enc Tryd.prog W base spare held fuel 25 cs = some x → VRead W cs := by
  intro fuel
  induction fuel using Nat.strongRecOn with
  | _ fuel ih =>
  intro cs x h
  obtain ⟨xs, n, hn, _, hl, hxs, hf⟩ := DataW.trod_struct Tryd.underlying25 h
  have ih2 : ∀ m, m < n → ∀ (cs : List Value) (x : DataW H × List MemPlace), DataW.trod enc Tryd.prog W base spare held m 25 cs = some x → VRead W cs := fun m hm => ih m (by omega)
  have f0 := hf 0 _ rfl
  have f1 := hf 1 _ rfl
  have f2 := hf 2 _ rfl
  have f3 := hf 3 _ rfl
  have f4 := hf 4 _ rfl
  have f5 := hf 5 _ rfl
  have hl6 : cs.length = 6 := hl.trans (by kernel_rfl)
  have hx6 : xs.length = 6 := hxs.trans (by kernel_rfl)
  match cs, xs, hl6, hx6 with
  | [a0, a1, a2, a3, a4, a5], [y0, y1, y2, y3, y4, y5], _, _ =>
    have c0 : Tryd.prog.cellsOf 3 = 1 := by kernel_rfl
    have g0 : DataW.trod enc Tryd.prog W base spare held n 3 [a0] = some y0 := by
      have e : DataW.trod enc Tryd.prog W base spare held n 3 (([a0, a1, a2, a3, a4, a5].drop 0).take (Tryd.prog.cellsOf 3)) = some y0 := f0
      rw [c0] at e
      exact e
    have c1 : Tryd.prog.cellsOf 22 = 1 := by kernel_rfl
    have g1 : DataW.trod enc Tryd.prog W base spare held n 22 [a1] = some y1 := by
      have e : DataW.trod enc Tryd.prog W base spare held n 22 (([a0, a1, a2, a3, a4, a5].drop 1).take (Tryd.prog.cellsOf 22)) = some y1 := f1
      rw [c1] at e
      exact e
    have c2 : Tryd.prog.cellsOf 9 = 1 := by kernel_rfl
    have g2 : DataW.trod enc Tryd.prog W base spare held n 9 [a2] = some y2 := by
      have e : DataW.trod enc Tryd.prog W base spare held n 9 (([a0, a1, a2, a3, a4, a5].drop 2).take (Tryd.prog.cellsOf 9)) = some y2 := f2
      rw [c2] at e
      exact e
    have c3 : Tryd.prog.cellsOf 23 = 1 := by kernel_rfl
    have g3 : DataW.trod enc Tryd.prog W base spare held n 23 [a3] = some y3 := by
      have e : DataW.trod enc Tryd.prog W base spare held n 23 (([a0, a1, a2, a3, a4, a5].drop 3).take (Tryd.prog.cellsOf 23)) = some y3 := f3
      rw [c3] at e
      exact e
    have g4 : DataW.trod enc Tryd.prog W base spare held n 3 [a4] = some y4 := by
      have e : DataW.trod enc Tryd.prog W base spare held n 3 (([a0, a1, a2, a3, a4, a5].drop 4).take (Tryd.prog.cellsOf 3)) = some y4 := f4
      rw [c0] at e
      exact e
    have g5 : DataW.trod enc Tryd.prog W base spare held n 23 [a5] = some y5 := by
      have e : DataW.trod enc Tryd.prog W base spare held n 23 (([a0, a1, a2, a3, a4, a5].drop 5).take (Tryd.prog.cellsOf 23)) = some y5 := f5
      rw [c3] at e
      exact e
    clear f0 f1 f2 f3 f4 f5 hf hl hxs
    obtain ⟨k, hk, _, wk⟩ := DataW.trod_int Tryd.underlying3 g0
    obtain ⟨u, hu, _, wu⟩ := DataW.trod_int Tryd.underlying22 g1
    obtain ⟨s, hs, _, ws⟩ := DataW.trod_string Tryd.underlying9 g2
    obtain ⟨xx, hx, _, wx⟩ := DataW.trod_int Tryd.underlying3 g4
    obtain rfl : a0 = .int .i64 k := by simpa using hk
    obtain rfl : a1 = .int .u64 u := by simpa using hu
    obtain rfl : a2 = .string s := by simpa using hs
    obtain rfl : a4 = .int .i64 xx := by simpa using hx
    have w0 := wf_i64 wk
    have w1 := wf_u64 wu
    have w3 := wf_i64 wx
    obtain ⟨A1, l1, p1, q1, rfl, h11, h12, h13⟩ := side_of n ih2 a3 _ g3
    obtain ⟨A2, l2, p2, q2, rfl, h21, h22, h23⟩ := side_of n ih2 a5 _ g5
    refine ⟨.mk k u s xx (fun b => cond b l2 l1) (fun b => cond b q2 q1), fun b => cond b A2 A1, fun b => cond b p2 p1, rfl, ⟨w0.1, w0.2, w1.1, w1.2, w3.1, w3.2, ws⟩, ⟨w0.1, w0.2, w1.1, w1.2, w3.1, w3.2, ws⟩, fun b => ?_⟩
    cases b
    · exact ⟨h11, h12, h13⟩
    · exact ⟨h21, h22, h23⟩
set_option maxRecDepth 100000 in
/-- What a reading law is handed, opened. -/
theorem open_handed {H : Type} {enc : TypeId × Value → H} {W : World} {v : Value} {d : DataW H} {ps : List MemPlace} {base0 : Nat} (hv : Value.okWide Tryd.prog W .any base0 28 v)
    (h : DataW.Trod enc Tryd.prog W 0 (fun _ => true) true 28 v d ps) :
    ∃ (T : VT) (fo cut : Int) (A : Bool → Option Addr) (Ab : Option Addr) (c : Bool → Nat) (cb : Nat) (bl : List Int), v = .agg #[.int .i64 T.k, .int .u64 T.u, .string T.s, .slice (A false) (T.n false) (c false), .int .i64 T.o, .slice (A true) (T.n true) (c true), .int .u64 fo, .slice Ab bl.length cb, .int .i64 cut] ∧
      T.wf ∧ TV W W.heap.size T A c ∧ Reads W W.heap.size 1 Ab bl.length (bs bl) ∧ bl.length ≤ cb ∧ cb ≤ maxLen ∧ (0 ≤ fo ∧ fo ≤ 18446744073709551615) ∧ (-9223372036854775808 ≤ cut ∧ cut ≤ 9223372036854775807) ∧ (∀ x ∈ bl, 0 ≤ x ∧ x ≤ 255) := by
  obtain ⟨cs, rfl, hsz⟩ := okWide_struct Tryd.underlying28 hv
  obtain ⟨fuel, hf⟩ := h
  have hs9 : cs.size = 9 := hsz.trans (by kernel_rfl)
  obtain ⟨l⟩ := cs
  obtain ⟨xs, n, rfl, _, hl, hxs, hff⟩ := DataW.trod_struct Tryd.underlying28 hf
  have f0 := hff 0 _ rfl
  have f1 := hff 1 _ rfl
  have f2 := hff 2 _ rfl
  have f3 := hff 3 _ rfl
  have hl9 : l.length = 9 := by simpa using hs9
  have hx4 : xs.length = 4 := hxs.trans (by kernel_rfl)
  clear hff hl hxs hsz hs9 hv hf
  match l, xs, hl9, hx4 with
  | [a0, a1, a2, a3, a4, a5, a6, a7, a8], [y0, y1, y2, y3], _, _ =>
    have c0 : Tryd.prog.cellsOf 25 = 6 := by kernel_rfl
    have g0 : DataW.trod enc Tryd.prog W 0 (fun _ => true) true n 25 [a0, a1, a2, a3, a4, a5] = some y0 := by
      have e : DataW.trod enc Tryd.prog W 0 (fun _ => true) true n 25 (([a0, a1, a2, a3, a4, a5, a6, a7, a8].drop 0).take (Tryd.prog.cellsOf 25)) = some y0 := f0
      rw [c0] at e
      exact e
    have c1 : Tryd.prog.cellsOf 22 = 1 := by kernel_rfl
    have g1 : DataW.trod enc Tryd.prog W 0 (fun _ => true) true n 22 [a6] = some y1 := by
      have e : DataW.trod enc Tryd.prog W 0 (fun _ => true) true n 22 (([a0, a1, a2, a3, a4, a5, a6, a7, a8].drop 6).take (Tryd.prog.cellsOf 22)) = some y1 := f1
      rw [c1] at e
      exact e
    have c2 : Tryd.prog.cellsOf 26 = 1 := by kernel_rfl
    have g2 : DataW.trod enc Tryd.prog W 0 (fun _ => true) true n 26 [a7] = some y2 := by
      have e : DataW.trod enc Tryd.prog W 0 (fun _ => true) true n 26 (([a0, a1, a2, a3, a4, a5, a6, a7, a8].drop 7).take (Tryd.prog.cellsOf 26)) = some y2 := f2
      rw [c2] at e
      exact e
    have c3 : Tryd.prog.cellsOf 3 = 1 := by kernel_rfl
    have g3 : DataW.trod enc Tryd.prog W 0 (fun _ => true) true n 3 [a8] = some y3 := by
      have e : DataW.trod enc Tryd.prog W 0 (fun _ => true) true n 3 (([a0, a1, a2, a3, a4, a5, a6, a7, a8].drop 8).take (Tryd.prog.cellsOf 3)) = some y3 := f3
      rw [c3] at e
      exact e
    clear f0 f1 f2 f3
    obtain ⟨T, A, c, hT, hwf, hTV⟩ := treeV_of n _ _ g0
    obtain ⟨fo, hfo, _, wf⟩ := DataW.trod_int Tryd.underlying22 g1
    obtain ⟨cut, hcut, _, wc⟩ := DataW.trod_int Tryd.underlying3 g3
    obtain ⟨Ab, len, cb, rfl⟩ : ∃ Ab len cb, a7 = .slice Ab len cb := by
      rcases DataW.trod_slice Tryd.underlying26 g2 with ⟨h4, _⟩ | ⟨a, len, cap, elems, rest, m, hm, h4, _⟩
      · exact ⟨none, 0, 0, by simpa using h4⟩
      · exact ⟨some a, len, cap, by simpa using h4⟩
    obtain ⟨bl, rfl, hr, hc, hm, hwb⟩ := open_nums (base := 0) Tryd.underlying26 Tryd.underlying5 (by kernel_rfl) (show DataW.Trod enc Tryd.prog W 0 (fun _ => true) true 26 (.slice Ab len cb) y2.1 y2.2 from ⟨n, g2⟩)
    unfold cV at hT
    simp only [List.cons.injEq, and_true] at hT hfo hcut
    obtain ⟨rfl, rfl, rfl, rfl, rfl, rfl⟩ := hT
    subst hfo hcut
    exact ⟨T, fo, cut, A, Ab, c, cb, bl, rfl, hwf, hTV, hr, hc, hm, wf_u64 wf, wf_i64 wc, fun x hx => wf_u8 (hwb x hx)⟩
end Go.Proofs.YtjjhckbidcdkcaaDoor
