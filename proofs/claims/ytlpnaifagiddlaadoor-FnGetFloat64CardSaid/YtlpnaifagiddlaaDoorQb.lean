/- A value of the laws as a tree: what DataW.trod reads lies in memory as TR says. By hand. -/
import Derived.Test.YtlpnaifagiddlaaDoorPh
import Derived.Test.YtlpnaifagiddlaaDoorOpen
import Derived.ChangeArms
import Derived.ChangeOld
import Derived.WideShapes
namespace Go.Proofs.YtlpnaifagiddlaaDoor
open Go.RowKit Go.ChangeShapes Go.WideShapes Go.ChangeAt
set_option linter.unusedVariables false

set_option maxRecDepth 100000 in
theorem tree_of {H : Type} {enc : TypeId × Value → H} {W : World} {base : Nat} {spare : Nat → Bool} {held : Bool} : ∀ (fuel : Nat) (cs : List Value) (x : DataW H × List MemPlace),
    DataW.trod enc Tryd.prog W base spare held fuel 25 cs = some x → ∃ T A c, cs = [.int .i64 T.k, .int .u64 T.u, .string T.s, .int .i64 T.x, .slice A T.n c] ∧ T.wf ∧ TR W W.heap.size T A c := by
  intro fuel
  induction fuel using Nat.strongRecOn with
  | _ fuel ih =>
  intro cs x h
  obtain ⟨xs, n, rfl, _, hl, hxs, hf⟩ := DataW.trod_struct Tryd.underlying25 h
  have f0 := hf 0 _ rfl
  have f1 := hf 1 _ rfl
  have f2 := hf 2 _ rfl
  have f3 := hf 3 _ rfl
  have f4 := hf 4 _ rfl
  have hl5 : cs.length = 5 := hl.trans (by kernel_rfl)
  have hx5 : xs.length = 5 := hxs.trans (by kernel_rfl)
  match cs, xs, hl5, hx5 with
  | [a0, a1, a2, a3, a4], [y0, y1, y2, y3, y4], _, _ =>
    have c0 : Tryd.prog.cellsOf 3 = 1 := by kernel_rfl
    have g0 : DataW.trod enc Tryd.prog W base spare held n 3 [a0] = some y0 := by
      have e : DataW.trod enc Tryd.prog W base spare held n 3 (([a0, a1, a2, a3, a4].drop 0).take (Tryd.prog.cellsOf 3)) = some y0 := f0
      rw [c0] at e
      exact e
    have c1 : Tryd.prog.cellsOf 22 = 1 := by kernel_rfl
    have g1 : DataW.trod enc Tryd.prog W base spare held n 22 [a1] = some y1 := by
      have e : DataW.trod enc Tryd.prog W base spare held n 22 (([a0, a1, a2, a3, a4].drop 1).take (Tryd.prog.cellsOf 22)) = some y1 := f1
      rw [c1] at e
      exact e
    have c2 : Tryd.prog.cellsOf 9 = 1 := by kernel_rfl
    have g2 : DataW.trod enc Tryd.prog W base spare held n 9 [a2] = some y2 := by
      have e : DataW.trod enc Tryd.prog W base spare held n 9 (([a0, a1, a2, a3, a4].drop 2).take (Tryd.prog.cellsOf 9)) = some y2 := f2
      rw [c2] at e
      exact e
    have c3 : Tryd.prog.cellsOf 3 = 1 := by kernel_rfl
    have g3 : DataW.trod enc Tryd.prog W base spare held n 3 [a3] = some y3 := by
      have e : DataW.trod enc Tryd.prog W base spare held n 3 (([a0, a1, a2, a3, a4].drop 3).take (Tryd.prog.cellsOf 3)) = some y3 := f3
      rw [c3] at e
      exact e
    have c4 : Tryd.prog.cellsOf 23 = 1 := by kernel_rfl
    have g4 : DataW.trod enc Tryd.prog W base spare held n 23 [a4] = some y4 := by
      have e : DataW.trod enc Tryd.prog W base spare held n 23 (([a0, a1, a2, a3, a4].drop 4).take (Tryd.prog.cellsOf 23)) = some y4 := f4
      rw [c4] at e
      exact e
    clear f0 f1 f2 f3 f4 hf hl hxs
    obtain ⟨k, hk, _, wk⟩ := DataW.trod_int Tryd.underlying3 g0
    obtain ⟨u, hu, _, wu⟩ := DataW.trod_int Tryd.underlying22 g1
    obtain ⟨s, hs, _, ws⟩ := DataW.trod_string Tryd.underlying9 g2
    obtain ⟨xx, hx, _, wx⟩ := DataW.trod_int Tryd.underlying3 g3
    obtain rfl : a0 = .int .i64 k := by simpa using hk
    obtain rfl : a1 = .int .u64 u := by simpa using hu
    obtain rfl : a2 = .string s := by simpa using hs
    obtain rfl : a3 = .int .i64 xx := by simpa using hx
    have w0 := wf_i64 wk
    have w1 := wf_u64 wu
    have w3 := wf_i64 wx
    rcases DataW.trod_slice Tryd.underlying23 g4 with ⟨h4, _⟩ | ⟨a, len, cap, elems, rest, m, hm, h4, _, hb, hlc, hcm, hel, hch, _⟩
    · obtain rfl : a4 = .slice none 0 0 := by simpa using h4
      exact ⟨.mk k u s xx 0 (fun _ => .nil), none, 0, rfl, ⟨w0.1, w0.2, w1.1, w1.2, w3.1, w3.2, ws⟩, ⟨w0.1, w0.2, w1.1, w1.2, w3.1, w3.2, ws⟩, Nat.le_refl _, Nat.zero_le _, fun h => absurd h (by omega)⟩
    · obtain rfl : a4 = .slice (some a) len cap := by simpa using h4
      have cP : Tryd.prog.cellsOf 25 = 5 := by kernel_rfl
      have hk : ∀ i, ∃ q : PT × Option Addr × Nat, i < len → W.cells? base (a.add (i * 5)) 5 = some [.int .i64 q.1.k, .int .u64 q.1.u, .string q.1.s, .int .i64 q.1.x, .slice q.2.1 q.1.n q.2.2] ∧ TR W W.heap.size q.1 q.2.1 q.2.2 := by
        intro i
        by_cases hi : i < len
        · have e := hch i hi
          rw [cP] at e
          rw [show elems[i]? = some elems[i] from List.getElem?_eq_getElem (by omega)] at e
          obtain ⟨cs', e1, e2⟩ := Option.bind_eq_some_iff.1 e
          obtain ⟨T, A, c, rfl, _, hT⟩ := ih m (by omega) cs' _ e2
          exact ⟨(T, A, c), fun _ => ⟨e1, hT⟩⟩
        · exact ⟨(.nil, none, 0), fun h => absurd h hi⟩
      obtain ⟨f, hf⟩ := Classical.axiomOfChoice hk
      refine ⟨.mk k u s xx len (fun i => (f i).1), some a, cap, rfl, ⟨w0.1, w0.2, w1.1, w1.2, w3.1, w3.2, ws⟩, ⟨w0.1, w0.2, w1.1, w1.2, w3.1, w3.2, ws⟩, hlc, hcm, fun h0 => ?_⟩
      have hlt : a.block < W.heap.size := by simpa [Addr.add] using World.cells?_block (hf 0 h0).1 (by omega)
      have hsp : a.spot = none := by
        have hc := (World.cells?_some (hf 0 h0).1).2.2 0 (by omega)
        simp only [List.getElem?_cons_zero] at hc
        unfold World.cell? at hc
        split at hc
        · split at hc
          · cases hc
          · rename_i h5
            simpa [Addr.add] using h5
        · cases hc
      obtain ⟨g, o, sp⟩ := a
      simp only at hsp hlt
      subst hsp
      refine ⟨g, o, rfl, hlt, fun i hi => ⟨(f i).2.1, (f i).2.2, ?_⟩⟩
      have hadd : ∀ n, (⟨g, o, none⟩ : Addr).add n = ⟨g, o + n, none⟩ := by intro n; unfold Addr.add; split <;> simp_all
      have hc := (World.cells?_some (hf i hi).1).2.2
      have c0 := hc 0 (by omega)
      have c1 := hc 1 (by omega)
      have c2 := hc 2 (by omega)
      have c3 := hc 3 (by omega)
      have c4 := hc 4 (by omega)
      simp only [hadd, List.getElem?_cons_zero, List.getElem?_cons_succ, Nat.add_zero] at c0 c1 c2 c3 c4
      exact ⟨c0, c1, c2, c3, c4, (hf i hi).2⟩
theorem iface_of_trod {P : Program} {w : World} {base : Nat} {sp : Nat → Bool} {fuel : Nat} {t : TypeId} {ms : Array (String × TypeId)} {cs : List Value} {name : String} {y : DataW Unit} {q : List MemPlace} (ht : P.underlying t = some (.interface ms))
    (h : DataW.trod (fun _ => ()) P w base sp false fuel t cs = some (.iface name y, q)) : ∃ u v, cs = [.iface u v] := by
  cases fuel with
  | zero => simp [DataW.trod] at h
  | succ n =>
    unfold DataW.trod at h
    rw [ht] at h
    split at h <;> simp_all
set_option maxRecDepth 100000 in
/-- The given value of a law, opened. -/
theorem open_given {H : Type} {enc : TypeId × Value → H} {W : World} {base : Nat} {v : Value} {d : DataW H} {ps : List MemPlace} (hv : Value.okWide Tryd.prog W .any base 28 v)
    (h : DataW.Trod enc Tryd.prog W 0 (fun _ => true) true 28 v d ps) :
    ∃ (T : PT) (fo cut : Int) (sh : Bool) (A Ab : Option Addr) (c cb : Nat) (bl : List Int), v = .agg #[.int .i64 T.k, .int .u64 T.u, .string T.s, .int .i64 T.x, .slice A T.n c, .int .u64 fo, .bool sh, .slice Ab bl.length cb, .int .i64 cut] ∧
      T.wf ∧ TR W W.heap.size T A c ∧ Reads W W.heap.size 1 Ab bl.length (bs bl) ∧ bl.length ≤ cb ∧ cb ≤ maxLen := by
  obtain ⟨cs, rfl, hsz⟩ := okWide_struct Tryd.underlying28 hv
  obtain ⟨fuel, hf⟩ := h
  have hs9 : cs.size = 9 := hsz.trans (by kernel_rfl)
  obtain ⟨l⟩ := cs
  obtain ⟨xs, n, rfl, _, hl, hxs, hff⟩ := DataW.trod_struct Tryd.underlying28 hf
  have f0 := hff 0 _ rfl
  have f1 := hff 1 _ rfl
  have f2 := hff 2 _ rfl
  have f3 := hff 3 _ rfl
  have f4 := hff 4 _ rfl
  have hl9 : l.length = 9 := by simpa using hs9
  have hx5 : xs.length = 5 := hxs.trans (by kernel_rfl)
  clear hff hl hxs hsz hs9 hv hf
  match l, xs, hl9, hx5 with
  | [a0, a1, a2, a3, a4, a5, a6, a7, a8], [y0, y1, y2, y3, y4], _, _ =>
    have cP : Tryd.prog.cellsOf 25 = 5 := by kernel_rfl
    have cU : Tryd.prog.cellsOf 22 = 1 := by kernel_rfl
    have cB : Tryd.prog.cellsOf 4 = 1 := by kernel_rfl
    have cS : Tryd.prog.cellsOf 26 = 1 := by kernel_rfl
    have cI : Tryd.prog.cellsOf 3 = 1 := by kernel_rfl
    have g0 : DataW.trod enc Tryd.prog W 0 (fun _ => true) true n 25 [a0, a1, a2, a3, a4] = some y0 := by
      have e : DataW.trod enc Tryd.prog W 0 (fun _ => true) true n 25 (([a0, a1, a2, a3, a4, a5, a6, a7, a8].drop 0).take (Tryd.prog.cellsOf 25)) = some y0 := f0
      rw [cP] at e
      exact e
    have g1 : DataW.trod enc Tryd.prog W 0 (fun _ => true) true n 22 [a5] = some y1 := by
      have e : DataW.trod enc Tryd.prog W 0 (fun _ => true) true n 22 (([a0, a1, a2, a3, a4, a5, a6, a7, a8].drop 5).take (Tryd.prog.cellsOf 22)) = some y1 := f1
      rw [cU] at e
      exact e
    have g2 : DataW.trod enc Tryd.prog W 0 (fun _ => true) true n 4 [a6] = some y2 := by
      have e : DataW.trod enc Tryd.prog W 0 (fun _ => true) true n 4 (([a0, a1, a2, a3, a4, a5, a6, a7, a8].drop 6).take (Tryd.prog.cellsOf 4)) = some y2 := f2
      rw [cB] at e
      exact e
    have g3 : DataW.trod enc Tryd.prog W 0 (fun _ => true) true n 26 [a7] = some y3 := by
      have e : DataW.trod enc Tryd.prog W 0 (fun _ => true) true n 26 (([a0, a1, a2, a3, a4, a5, a6, a7, a8].drop 7).take (Tryd.prog.cellsOf 26)) = some y3 := f3
      rw [cS] at e
      exact e
    have g4 : DataW.trod enc Tryd.prog W 0 (fun _ => true) true n 3 [a8] = some y4 := by
      have e : DataW.trod enc Tryd.prog W 0 (fun _ => true) true n 3 (([a0, a1, a2, a3, a4, a5, a6, a7, a8].drop 8).take (Tryd.prog.cellsOf 3)) = some y4 := f4
      rw [cI] at e
      exact e
    clear f0 f1 f2 f3 f4
    obtain ⟨T, A, c, hT, hwf, hTR⟩ := tree_of n _ _ g0
    obtain ⟨fo, hfo, _, _⟩ := DataW.trod_int Tryd.underlying22 g1
    obtain ⟨cut, hcut, _, _⟩ := DataW.trod_int Tryd.underlying3 g4
    obtain ⟨sh, hsh, _⟩ := DataW.trod_bool Tryd.underlying4 g2
    obtain ⟨Ab, len, cb, rfl⟩ : ∃ Ab len cb, a7 = .slice Ab len cb := by
      rcases DataW.trod_slice Tryd.underlying26 g3 with ⟨h4, _⟩ | ⟨a, len, cap, elems, rest, m, hm, h4, _⟩
      · exact ⟨none, 0, 0, by simpa using h4⟩
      · exact ⟨some a, len, cap, by simpa using h4⟩
    obtain ⟨bl, rfl, hr, hc, hm, _⟩ := open_nums (base := 0) Tryd.underlying26 Tryd.underlying5 (by kernel_rfl) (show DataW.Trod enc Tryd.prog W 0 (fun _ => true) true 26 (.slice Ab len cb) y3.1 y3.2 from ⟨n, g3⟩)
    simp only [List.cons.injEq, and_true] at hT hfo hcut hsh
    obtain ⟨rfl, rfl, rfl, rfl, rfl⟩ := hT
    subst hfo hcut hsh
    exact ⟨T, fo, cut, sh, A, Ab, c, cb, bl, rfl, hwf, hTR, hr, hc, hm⟩
end Go.Proofs.YtlpnaifagiddlaaDoor
