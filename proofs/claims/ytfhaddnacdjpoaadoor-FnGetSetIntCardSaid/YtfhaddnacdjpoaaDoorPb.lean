/- spec.sizes: the forms that hold a number. -/
import Derived.Test.YtfhaddnacdjpoaaDoorPa
namespace Go.Proofs.YtfhaddnacdjpoaaDoor
open Go.RowKit
set_option linter.unusedVariables false

theorem infoForm : (Tryd.prog.info? 62).map (fun i => (i.zero, i.size, i.bytes)) = some (some (.agg #[.int .i64 0, .int .i64 0]), 2, 16) := by kernel_rfl
def cF (p : Int × Nat) : List Value := [.int .i64 p.1, .int .i64 p.2]
/-- A form holds a number. -/
def okF (u : Int) (p : Int × Nat) : Bool := decide (8 ≤ p.2) || decide (u / 2 ^ (8 * p.2) = 0)
/-- A list of forms that the call made: what stands in its cells. -/
def WantsF (W : World) (B : Nat) (A : Option Addr) (fs : List (Int × Nat)) : Prop :=
  0 < fs.length → ∃ g, A = some ⟨g, 0, none⟩ ∧ g < B ∧ ∀ (k : Nat) (hk : k < fs.length), W.cell? ⟨g, k * 2, none⟩ = some (.int .i64 fs[k].1) ∧ W.cell? ⟨g, k * 2 + 1, none⟩ = some (.int .i64 fs[k].2)
theorem cF_one (p : Int × Nat) : ∀ v ∈ cF p, v.oneCell' = true := by
  intro v hv
  simp only [cF, List.mem_cons, List.not_mem_nil, or_false] at hv
  rcases hv with rfl | rfl <;> rfl
theorem reads_twoF (w : World) (p : Int × Nat) (t : TypeId) : Reads (w.alloc (.cells #[.int .i64 p.1, .int .i64 p.2] t)) (w.heap.size + 1) 2 (some ⟨w.heap.size, 0, none⟩) 1 (cF p) := by
  refine ⟨rfl, fun _ => ⟨_, rfl, by simp, fun j v hv => ?_⟩⟩
  rw [add_lit, Nat.zero_add]
  exact ((Blk.new w t (cF p)).cell j).trans hv
theorem flat2_length (l : List (Int × Nat)) : (l.flatMap cF).length = l.length * 2 := by
  induction l with
  | nil => rfl
  | cons x xs ih => rw [List.flatMap_cons, List.length_append, ih, List.length_cons]; simp only [cF, List.length_cons, List.length_nil]; omega
theorem flat2_at (l : List (Int × Nat)) : ∀ (k : Nat) (hk : k < l.length), ∀ j, j < 2 → (l.flatMap cF)[k * 2 + j]? = (cF l[k])[j]? := by
  induction l with
  | nil => intro k hk; simp at hk
  | cons x xs ih =>
    intro k hk j hj
    have hx : (cF x).length = 2 := rfl
    rw [List.flatMap_cons]
    cases k with
    | zero => rw [List.getElem?_append_left (by rw [hx]; omega)]; simp
    | succ k =>
      rw [List.getElem?_append_right (by rw [hx]; omega), hx]
      have := ih k (by simpa using hk) j hj
      rw [show (k + 1) * 2 + j - 2 = k * 2 + j by omega, this]
      simp
theorem wantsF_own {w : World} {B c : Nat} {A : Option Addr} {l : List (Int × Nat)} (h : w.ownsRow B 62 2 (.slice A l.length c) l.length (l.flatMap cF)) : WantsF w w.heap.size A l := fun h0 => by
  obtain ⟨g, cap, hv, _, hlt⟩ := h.form h0
  have hA : A = some ⟨g, 0, none⟩ := by injection hv
  subst hA
  refine ⟨g, rfl, hlt, fun k hk => ⟨?_, ?_⟩⟩
  · have := h.cells (g := g) rfl (k * 2 + 0) (.int .i64 l[k].1) (by rw [flat2_at l k hk 0 (by omega)]; rfl)
    rwa [add_lit, Nat.zero_add, Nat.add_zero] at this
  · have := h.cells (g := g) rfl (k * 2 + 1) (.int .i64 l[k].2) (by rw [flat2_at l k hk 1 (by omega)]; rfl)
    rwa [add_lit, Nat.zero_add] at this
theorem wantsF_lit (w : World) (l : List (Int × Nat)) : WantsF (w.alloc (.cells (l.flatMap cF).toArray 62)) (w.heap.size + 1) (some ⟨w.heap.size, 0, none⟩) l := fun h0 => by
  have hb := Blk.new w 62 (l.flatMap cF)
  refine ⟨_, rfl, by omega, fun k hk => ⟨?_, ?_⟩⟩
  · have := hb.cell (k * 2 + 0)
    rw [flat2_at l k hk 0 (by omega)] at this
    exact this
  · have := hb.cell (k * 2 + 1)
    rw [flat2_at l k hk 1 (by omega)] at this
    exact this
theorem WantsF.below {W W' : World} {B : Nat} {A : Option Addr} {l : List (Int × Nat)} (h : WantsF W B A l) (hb : Below B W W') : WantsF W' B A l := fun h0 => by
  obtain ⟨g, hA, hg, hc⟩ := h h0
  exact ⟨g, hA, hg, fun k hk => ⟨(hb.cell (p := ⟨g, k * 2, none⟩) hg).trans (hc k hk).1, (hb.cell (p := ⟨g, k * 2 + 1, none⟩) hg).trans (hc k hk).2⟩⟩
theorem WantsF.more {W : World} {B B' : Nat} {A : Option Addr} {l : List (Int × Nat)} (h : WantsF W B A l) (hB : B ≤ B') : WantsF W B' A l := fun h0 => by
  obtain ⟨g, hA, hg, hc⟩ := h h0
  exact ⟨g, hA, by omega, hc⟩
theorem filter_take_yes (u : Int) (l : List (Int × Nat)) (k : Nat) (h : k < l.length) (hy : okF u l[k] = true) : (l.take (k + 1)).filter (okF u) = (l.take k).filter (okF u) ++ [l[k]] := by
  rw [List.take_succ_eq_append_getElem h, List.filter_append]; simp [hy]
theorem filter_take_no (u : Int) (l : List (Int × Nat)) (k : Nat) (h : k < l.length) (hy : okF u l[k] = false) : (l.take (k + 1)).filter (okF u) = (l.take k).filter (okF u) := by
  rw [List.take_succ_eq_append_getElem h, List.filter_append]; simp [hy]
/-- The forms that hold a number, as a list of the call's own. -/
def Szs (w : World) (fs : List (Int × Nat)) (e : Ending) (w' : World) : Prop :=
  ∃ A c, e = .returned (.slice A fs.length c) ∧ w'.ownsRow w.heap.size 62 2 (.slice A fs.length c) fs.length (fs.flatMap cF) ∧ Below w.heap.size w w'

set_option maxHeartbeats 4000000 in
set_option maxRecDepth 100000 in
theorem sizes_calls (w : World) (u : Int) (A : Option Addr) (c : Nat) (fs : List (Int × Nat)) (h0 : 0 ≤ u) (h1 : u ≤ 18446744073709551615) (h : WantsF w w.heap.size A fs) (hl : fs.length ≤ 8) (hs : ∀ p ∈ fs, p.2 ≤ 8) :
    Calls Tryd.prog 36 #[.int .u64 u, .slice A fs.length c] w (Szs w (fs.filter (okF u))) := by
  obtain ⟨i0, hi0, hz0, hz1, hz2⟩ := info_parts infoForm
  have H := Lib.hid h
  have HS := Lib.hid hs
  clear h hs
  go_enter Tryd.func36, Tryd.ntmps36
  go_wp2
  go_loopw [5, 10] (fun v i wr => ∃ (k N c' : Nat) (A' : Option Addr), k ≤ fs.length ∧ i = .int .i64 k ∧ v = .slice A' N c' ∧ N ≤ k ∧ Hid (N = ((fs.take k).filter (okF u)).length ∧ wr.ownsRow w.heap.size 62 2 (.slice A' N c') N (((fs.take k).filter (okF u)).flatMap cF) ∧ Below w.heap.size w wr)) (fun _ i _ => fs.length - (intOf i).toNat)
  case atStart => exact ⟨0, 0, 0, none, Nat.zero_le _, rfl, rfl, Nat.le_refl _, rfl, ⟨by simp, .inl ⟨rfl, rfl⟩⟩, Below.refl _ _⟩
  case round =>
    obtain ⟨k, N, c', A', hk, rfl, rfl, hNk, hrest⟩ := hrel
    obtain ⟨hN, hown, hbel⟩ := hrest.out
    have HN := Lib.hid hN
    have HOWN := Lib.hid hown
    have HBEL := Lib.hid hbel
    have hwz : w.heap.size ≤ wr.heap.size := hbel.size
    clear hrest hN hown hbel
    by_cases hlt : k < fs.length
    · obtain ⟨g, hA2, hgB, hcells⟩ := H.out (by omega)
      subst hA2
      obtain ⟨hc0, hc1⟩ := hcells k hlt
      have c0 : wr.cell? ⟨g, k * 2, none⟩ = some (.int .i64 fs[k].1) := (HBEL.out.cell (p := ⟨g, k * 2, none⟩) hgB).trans hc0
      have c1 : wr.cell? ⟨g, k * 2 + 1, none⟩ = some (.int .i64 fs[k].2) := (HBEL.out.cell (p := ⟨g, k * 2 + 1, none⟩) hgB).trans hc1
      have hp8 : fs[k].2 ≤ 8 := HS.out _ (List.getElem_mem hlt)
      have hyes := fun h => filter_take_yes u fs k hlt h
      have hno := fun h => filter_take_no u fs k hlt h
      have HY := Lib.hid hyes
      have HNO := Lib.hid hno
      clear hcells hc0 hc1 hyes hno
      generalize fs[k] = p at *
      obtain ⟨code, s⟩ := p
      simp only at c0 c1 hp8
      by_cases hok : okF u (code, s) = true
      · have HTS := Lib.hid (HY.out hok)
        clear HY HNO
        have hcs : 8 ≤ s ∨ (s < 8 ∧ u / 2 ^ (8 * s) = 0) := by
          simp only [okF, Bool.or_eq_true, decide_eq_true_eq] at hok
          omega
        clear hok
        rcases hcs with h8 | ⟨h8, hq⟩
        · obtain rfl : s = 8 := by omega
          go_wp2_with (
            (at_builtin)
            go_must (
              (refine wpList_append_any _ rfl (.tmp 25) (.tmp 27) 85 rfl w.heap.size 62 i0 _ 2 16 Tryd.underlying85 hi0 hz0 hz1 hz2 rfl (by omega) (.slice A' N c') N _ rfl ((HOWN.out.alloc _).alloc _) ((wr.heap.size + 1) + 1) (some ⟨wr.heap.size + 1, 0, none⟩) 1 1 (cF (code, 8)) rfl (by simpa using reads_twoF (wr.alloc (.cells #[.int .i64 code, .int .i64 8] 62)) (code, 8) 62) (cF_one _) (by simp only [maxLen]; omega) (by omega) (by simp; omega) ?_)
              intro v1 w3 hown1 hg1 hat1
              obtain ⟨A1', c1', rfl⟩ := own_formP hown1
              have HO1 := Lib.hid hown1
              have HBL := Lib.hid (((HBEL.out.alloc hwz _).alloc (by simp; omega) _).grown hg1 (by simp; omega) (fun j hj => (HOWN.out.lt j hj).1))
              clear hown1 hg1 hat1))
          go_roundw
          case rel =>
            refine ⟨k + 1, N + 1, c1', A1', by omega, by go_num, rfl, by omega, by rw [HTS.out, List.length_append, ← HN.out]; rfl, ?_, HBL.out⟩
            rw [HTS.out, List.flatMap_append]
            exact HO1.out
          case measure => simp [intOf]; omega
        · have hq2 : (u / 2 ^ (8 * s) == 0) = true := by simpa using hq
          have h8d : decide ((8 : Int) ≤ (s : Int)) = false := decide_eq_false (by omega)
          have HQ := Lib.hid hq
          clear hq
          go_wp2_with (
            (at_builtin)
            go_must (
              (refine wpList_append_any _ rfl (.tmp 25) (.tmp 27) 85 rfl w.heap.size 62 i0 _ 2 16 Tryd.underlying85 hi0 hz0 hz1 hz2 rfl (by omega) (.slice A' N c') N _ rfl ((HOWN.out.alloc _).alloc _) ((wr.heap.size + 1) + 1) (some ⟨wr.heap.size + 1, 0, none⟩) 1 1 (cF (code, s)) rfl (by simpa using reads_twoF (wr.alloc (.cells #[.int .i64 code, .int .i64 s] 62)) (code, s) 62) (cF_one _) (by simp only [maxLen]; omega) (by omega) (by simp; omega) ?_)
              intro v1 w3 hown1 hg1 hat1
              obtain ⟨A1', c1', rfl⟩ := own_formP hown1
              have HO1 := Lib.hid hown1
              have HBL := Lib.hid (((HBEL.out.alloc hwz _).alloc (by simp; omega) _).grown hg1 (by simp; omega) (fun j hj => (HOWN.out.lt j hj).1))
              clear hown1 hg1 hat1))
          go_roundw
          case rel =>
            refine ⟨k + 1, N + 1, c1', A1', by omega, by go_num, rfl, by omega, by rw [HTS.out, List.length_append, ← HN.out]; rfl, ?_, HBL.out⟩
            rw [HTS.out, List.flatMap_append]
            exact HO1.out
          case measure => simp [intOf]; omega
      · have hok' : okF u (code, s) = false := by simpa using hok
        have HTS := Lib.hid (HNO.out hok')
        clear HY HNO
        have hcs : s < 8 ∧ u / 2 ^ (8 * s) ≠ 0 := by
          simp only [okF, Bool.or_eq_false_iff, decide_eq_false_iff_not] at hok'
          omega
        clear hok hok'
        obtain ⟨h8, hq⟩ := hcs
        have hq2 : (u / 2 ^ (8 * s) == 0) = false := by simpa using hq
        have h8d : decide ((8 : Int) ≤ (s : Int)) = false := decide_eq_false (by omega)
        clear hq
        go_wp2
        go_roundw
        case rel => exact ⟨k + 1, N, c', A', by omega, by go_num, rfl, by omega, by rw [HTS.out]; exact HN.out, by rw [HTS.out]; exact HOWN.out.alloc _, HBEL.out.alloc hwz _⟩
        case measure => simp [intOf]; omega
    · obtain rfl : k = fs.length := by omega
      go_wp2
      go_ret
      have hn := HN.out
      have ho := HOWN.out
      rw [List.take_length] at hn ho
      subst hn
      exact ⟨A', c', rfl, ho, HBEL.out⟩
end Go.Proofs.YtfhaddnacdjpoaaDoor
