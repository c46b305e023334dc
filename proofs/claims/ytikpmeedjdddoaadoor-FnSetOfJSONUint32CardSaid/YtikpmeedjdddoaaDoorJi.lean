/- laws.inSet: the values of a list, each once, by their order. PRINTED by wip/gensf.py. -/
import Derived.Test.YtikpmeedjdddoaaDoorJs
import Derived.Test.YtikpmeedjdddoaaDoorKc
import Derived.Deep.RegionLawGrows
import Derived.Deep.Onto
import Derived.BigRegion
namespace Go.Proofs.YtikpmeedjdddoaaDoor
open Go.RowKit Go.Maps Go.Sort Go.ChangeShapes Go.WideShapes Go.Shelf
set_option linter.unusedVariables false

theorem own_new1 (W : World) (t : TypeId) (u : Value) : (W.alloc (.cells #[u] t)).ownsRow W.heap.size t 1 (.slice (some ⟨W.heap.size, 0, none⟩) 1 1) 1 [u] :=
  ⟨rfl, .inr ⟨_, 1, #[u], rfl, Nat.le_refl _, heap_alloc_new W _, Nat.le_refl _, by simp [maxLen], rfl, rfl⟩⟩
theorem Reads.list {w : World} {B n : Nat} {A : Option Addr} {q : IntKind} {l : List Int} (h : Reads w B 1 A n (l.map (Value.int q))) {k : Nat} (hk : k < n) : ∃ ad, A = some ad ∧ ad.block < B ∧ k < l.length ∧ w.cell? (ad.add k) = some (.int q (l.getD k 0)) := by
  obtain ⟨ad, u, h1, h2, h3, h4⟩ := h.at_ hk
  rw [List.getElem?_map] at h3
  rcases e : l[k]? with _ | v
  · rw [e] at h3; cases h3
  · rw [e] at h3
    cases h3
    obtain ⟨hk', hv⟩ := List.getElem?_eq_some_iff.1 e
    exact ⟨ad, h1, h2, hk', by rw [h4]; simp [List.getD, e]⟩
theorem take_snocI (l : List Int) (k : Nat) (h : k < l.length) : l.take (k + 1) = l.take k ++ [l.getD k 0] := by
  rw [List.take_add_one, List.getElem?_eq_getElem h, List.getD, List.getElem?_eq_getElem h]
  rfl
theorem getD_memS (l : List Int) (k : Nat) (h : k < l.length) : l.getD k 0 ∈ l := by
  simp [List.getD, h]

theorem ints_one (q : IntKind) (l : List Int) : ∀ u ∈ l.map (Value.int q), u.oneCell' = true := by
  intro u hu
  obtain ⟨x, _, rfl⟩ := List.mem_map.1 hu
  rfl
theorem below_drewS {B : Nat} {w w' : World} (h : Below B w w') (n : Nat) : Below B w (w'.drewN n) := ⟨h.os, h.tape, h.output, h.size, h.block⟩
theorem own_some {w : World} {base n : Nat} {e : TypeId} {size : Nat} {v : Value} {xs : List Value} (h : w.ownsRow base e size v n xs) (hn : 0 < n) : ∃ g c, v = .slice (some ⟨g, 0, none⟩) n c ∧ base ≤ g ∧ n ≤ c ∧ c ≤ maxLen := by
  rcases h.2 with ⟨rfl, rfl⟩ | ⟨g, cap, cur, rfl, hb, _, h1, h2, _⟩
  · omega
  · exact ⟨g, cap, rfl, hb, h1, h2⟩
/-- 'append([]T{x}, s...)' as a step of a region that draws. -/
theorem step_one {P : Program} {w : World} {A : Option Addr} {m c : Nat} {u : Value} {news : List Value} {ops : Array Oper} {o : Oper} {a : Act} {K : Act → World → Prop} {Q : Exit → Act → World → Prop} {E : Prop} (hgd : o.guard = none) (s x : Operand) (t : TypeId)
    (ho : o.op = .call { callee := .builtin .append, args := #[s, x], argTypes := #[t, t] }) (e : TypeId) (i : TypeInfo) (z : Value) (bytes : Nat) (ht : P.underlying t = some (.slice e)) (hi : P.info? e = some i) (hz : i.zero = some z) (hsize : i.size = 1) (hby : i.bytes = bytes) (hzs : z.cells.size = 1)
    (W : World) (hs : a.eval s = .slice (some ⟨W.heap.size, 0, none⟩) 1 1) (hx : a.eval x = .slice A m c) (hw : w = W.alloc (.cells #[u] e)) (hr : Reads W W.heap.size 1 A m news) (h1 : ∀ v ∈ news, v.oneCell' = true) (hm : m ≤ 1000) (hb8 : bytes ≤ 8)
    (h : ∀ g c' w', w'.ownsRow W.heap.size e 1 (.slice (some ⟨g, 0, none⟩) (1 + m) c') (1 + m) (u :: news) → Below W.heap.size W w' → K (a.put o.dst (.slice (some ⟨g, 0, none⟩) (1 + m) c')) w') :
    if Region.wanted o (yielded ops a.tmps) = true then Oper.wp P o a w K Q else E := by
  have hwd : Region.wanted o (yielded ops a.tmps) = true := by simp [Region.wanted, hgd]
  rw [if_pos hwd]
  subst hw
  have hmb : (1 + m) * bytes ≤ 1001 * 8 := Nat.mul_le_mul (by omega) hb8
  refine wp_append_any _ s x _ ho W.heap.size e i z 1 bytes ht hi hz hsize hby hzs (by omega) _ 1 [u] hs (own_new1 W e u) W.heap.size A m c news hx (hr.alloc (Nat.le_refl _) _) h1 (by simp only [maxLen]; omega) (by omega) (by simp) ?_
  intro v1 w1 hown1 hg1 hat1
  obtain ⟨g, c', rfl, hB, _, _⟩ := own_some hown1 (by omega)
  refine h g c' w1 hown1 (((Below.refl _ _).alloc (Nat.le_refl _) _).grown hg1 (by simp) (fun k hk => ?_))
  simp [Value.ownBlock] at hk
  omega
/-- 'append(s[:i:i], t...)' as a step of a region that draws: the row grows. -/
theorem step_grow {P : Program} {w : World} {g p m c : Nat} {ad : Addr} {olds news : List Value} {ops : Array Oper} {o : Oper} {a : Act} {K : Act → World → Prop} {Q : Exit → Act → World → Prop} {E : Prop} (hgd : o.guard = none) (s x : Operand) (t : TypeId)
    (ho : o.op = .call { callee := .builtin .append, args := #[s, x], argTypes := #[t, t] }) (e : TypeId) (i : TypeInfo) (z : Value) (bytes : Nat) (ht : P.underlying t = some (.slice e)) (hi : P.info? e = some i) (hz : i.zero = some z) (hsize : i.size = 1) (hby : i.bytes = bytes) (hzs : z.cells.size = 1)
    (hs : a.eval s = .slice (some ⟨g, 0, none⟩) p p) (hx : a.eval x = .slice (some ad) m c) (hr1 : Reads w w.heap.size 1 (some ⟨g, 0, none⟩) p olds) (hr2 : Reads w w.heap.size 1 (some ad) m news) (h1 : ∀ v ∈ news, v.oneCell' = true) (hm0 : 0 < m) (hm : m ≤ 2000) (hp : p ≤ 1000) (hb8 : bytes ≤ 8)
    (h : ∀ g' c' w', w'.ownsRow w.heap.size e 1 (.slice (some ⟨g', 0, none⟩) (p + m) c') (p + m) (olds ++ news) → Below w.heap.size w w' → K (a.put o.dst (.slice (some ⟨g', 0, none⟩) (p + m) c')) w') :
    if Region.wanted o (yielded ops a.tmps) = true then Oper.wp P o a w K Q else E := by
  have hmb : (p + m) * bytes ≤ 3000 * 8 := Nat.mul_le_mul (by omega) hb8
  obtain ⟨ad', had, _, hc2⟩ := hr2.2 (by omega)
  cases had
  refine step_append_grows hgd s x t ho e i z 1 bytes ht hi hz hsize hby hzs (by omega) (some ⟨g, 0, none⟩) p p olds hs (fun h => by cases h) hr1.1 ?_ ad m c news hx hr2.1 hc2 h1 (by omega) (by simp only [maxLen]; omega) (by omega) ?_
  · intro b hb j u hu
    cases hb
    rcases Nat.eq_zero_or_pos p with h0 | h0
    · have : olds = [] := List.eq_nil_of_length_eq_zero (by rw [hr1.1, h0])
      rw [this] at hu
      simp at hu
    · obtain ⟨ad2, h2, _, hc⟩ := hr1.2 h0
      cases h2
      exact hc j u hu
  · intro v' w' hown hg
    obtain ⟨g', c', rfl, _, _, _⟩ := own_some hown (by omega)
    exact h g' c' w' hown ((Below.refl _ _).grown hg (Nat.le_refl _) (fun j hj => by cases hj))

set_option maxHeartbeats 8000000 in
set_option maxRecDepth 100000 in
theorem inSetW (w : World) (Al : Option Addr) (cl N : Nat) (l : List Int) (hN : N = l.length) (hr : Reads w w.heap.size 1 Al N (l.map (Value.int .u32))) (hl : N ≤ 1000) :
    Calls Tryd.prog 8 #[.slice Al N cl] w fun e w' => ∃ out g c, SetOf l out ∧ e = .returned (.slice (some ⟨g, 0, none⟩) out.length c) ∧ w'.ownsRow w.heap.size 24 1 (.slice (some ⟨g, 0, none⟩) out.length c) out.length (out.map (Value.int .u32)) ∧ Below w.heap.size w w' := by
  obtain ⟨i1, hi1, hz10, hz11, hz12⟩ := info_parts infoW
  have HR := Lib.hid hr
  have HN := Lib.hid hN
  clear hr hN
  go_enter Tryd.func8, Tryd.ntmps8
  go_wp2
  go_loopw [3, 10] (fun v i wr => ∃ k g m c : Nat, k ≤ N ∧ i = .int .i64 (k : Nat) ∧ v = .slice (some ⟨g, 0, none⟩) m c ∧ m ≤ k ∧ m ≤ c ∧ c ≤ maxLen ∧ Hid (∃ out : List Int, m = out.length ∧ SetOf (l.take k) out ∧ wr.ownsRow w.heap.size 24 1 (.slice (some ⟨g, 0, none⟩) m c) m (out.map (Value.int .u32))) ∧ Hid (Below w.heap.size w wr)) (fun _ i _ => N - (intOf i).toNat)
  case atStart =>
    exact ⟨0, _, 0, 0, Nat.zero_le _, rfl, rfl, Nat.le_refl _, Nat.le_refl _, by simp [maxLen], ⟨[], rfl, by rw [List.take_zero]; exact SetOf.nil, World.ownsRow_made w _ 0 (Nat.le_refl _) (by simp) (by simp)⟩, (Below.refl _ _).alloc (Nat.le_refl _) _⟩
  case round =>
    obtain ⟨k, g, m, c, hk, rfl, rfl, hmk, hmc, hcm, hst, hbl⟩ := hrel
    by_cases hlt : k < N
    · have hkm2 : decide ((k : Int) < (N : Int)) = true := decide_eq_true (by omega)
      obtain ⟨ad, hA, hadB, hkl, hcell0⟩ := HR.out.list hlt
      subst hA
      have hcell : wr.cell? (ad.add k) = some (.int .u32 (l.getD k 0)) := (hbl.out.cell (by rw [block_of_add]; exact hadB)).trans hcell0
      obtain ⟨x, hX⟩ : ∃ x, x = l.getD k 0 := ⟨_, rfl⟩
      rw [← hX] at hcell
      have HX := Lib.hid hX
      have HKL := Lib.hid hkl
      clear hcell0 hX hkl
      obtain ⟨out, hml, hso, hown⟩ := hst.out
      have HML := Lib.hid hml
      have HSO := Lib.hid hso
      have HOWN := Lib.hid hown
      have hro : Reads wr wr.heap.size 1 (some ⟨g, 0, none⟩) m (out.map (Value.int .u32)) := Reads.of_own hown
      have HRO := Lib.hid hro
      clear hml hso hown hro
      go_wp2
      go_loopw [6] (fun j wr2 => ∃ p : Nat, p ≤ m ∧ j = .int .i64 (p : Nat) ∧ wr2 = wr ∧ Hid (∀ j (hj : j < out.length), j < p → out[j] < x)) (fun j _ => m - (intOf j).toNat)
      case atStart => exact ⟨0, Nat.zero_le _, rfl, rfl, fun j hj h => by omega⟩
      case round =>
        obtain ⟨p, hp, rfl, rfl, hlo⟩ := hrel
        rcases Nat.lt_or_ge p m with hpm | hpm
        · have d1 : decide ((p : Int) < (m : Int)) = true := decide_eq_true (by omega)
          have hpo : p < out.length := by rw [← HML.out]; exact hpm
          obtain ⟨ad2, hA2, _, _, hy⟩ := HRO.out.list hpm
          cases hA2
          rw [add_lit, Nat.zero_add] at hy
          have hyo : out.getD p 0 = out[p] := by simp [List.getD, hpo]
          rw [hyo] at hy
          obtain ⟨y, hY⟩ : ∃ y, y = out[p] := ⟨_, rfl⟩
          rw [← hY] at hy
          have HY := Lib.hid hY
          clear hyo
          rcases Int.lt_trichotomy y x with hyx | hyx | hyx
          · have d2 : decide (y < x) = true := decide_eq_true hyx
            clear hY
            go_wp2
            go_roundw
            case rel =>
              refine ⟨p + 1, by omega, by go_num, by first | trivial | rfl, fun j hj h => ?_⟩
              rcases Nat.lt_or_ge j p with h' | h'
              · exact hlo.out j hj h'
              · have : j = p := by omega
                subst this
                rw [← HY.out]; exact hyx
            case measure => simp [intOf]; omega
          · have d2 : decide (y < x) = false := decide_eq_false (by omega)
            have d3 : decide (y = x) = true := decide_eq_true hyx
            have d4 : (y == x) = true := by simp [hyx]
            have hsn : SetOf (l.take (k + 1)) out := by
              rw [take_snocI l k HKL.out, ← HX.out]
              exact HSO.out.snoc_old (by rw [← hyx, hY]; exact List.getElem_mem _)
            have HSN := Lib.hid hsn
            clear hsn hY
            go_wp2
            go_roundw
            case rel =>
              exact ⟨k + 1, g, m, c, by omega, by go_num, rfl, by omega, hmc, hcm, ⟨out, HML.out, HSN.out, HOWN.out⟩, hbl.out⟩
            case measure => simp [intOf]; omega
          · have d2 : decide (y < x) = false := decide_eq_false (by omega)
            have d3 : decide (y = x) = false := decide_eq_false (by omega)
            have d4 : (y == x) = false := by simp; omega
            have hsn : SetOf (l.take (k + 1)) (out.take p ++ x :: out.drop p) := by
              rw [take_snocI l k HKL.out, ← HX.out]
              have hpt := HSO.out.part (x := x) (m := p) (by omega) hlo.out (fun _ => by rw [← hY]; omega)
              exact HSO.out.snoc_new (by omega) hpt.1 (hpt.2.2 hpo (by rw [← hY]; omega))
            clear hY
            have hcutR : ∀ A', A' = (if c = p then some (⟨g, 0, none⟩ : Addr) else some ((⟨g, 0, none⟩ : Addr).add p)) → Reads wr wr.heap.size 1 A' (m - p) ((out.drop p).map (Value.int .u32)) := fun A' hA' => by
              have h := HRO.out.cut (k := p) (cap := c) hp hmc
              rw [hA']
              simpa [List.map_drop] using h
            have hold : Reads wr wr.heap.size 1 (some ⟨g, 0, none⟩) p ((out.map (Value.int .u32)).take p) := HRO.out.take1 hp
            have HCUT := Lib.hid hcutR
            have HOLD := Lib.hid hold
            have HSN := Lib.hid hsn
            clear hcutR hold hsn
            have hj0 : (0 : Int) ≤ (p : Int) := by omega
            have hj1 : (p : Int) ≤ (c : Int) := by omega
            have hj2 : ((p : Int)).toNat = p := by omega
            have hj3 : (p : Int) ≤ (m : Int) := by omega
            have hcm' : c ≤ 9223372036854775807 := by unfold maxLen at hcm; omega
            by_cases hcp : c = p
            all_goals
              go_wp2
              go_region_law (first
                | (refine step_one rfl (.tmp 45) (.tmp 48) 22 rfl 24 i1 (.int .u32 0) 4 Tryd.underlying22 hi1 hz10 hz11 hz12 rfl (wr.drewN 1) rfl rfl rfl ((HCUT.out _ (by simp [hcp, add_lit])).drewN 1) (ints_one .u32 (out.drop p)) (by omega) (by omega) ?_
                   intro g5 c5 w5 hown5 hbel5
                   have HOWN5 := Lib.hid hown5
                   have HBEL5 := Lib.hid hbel5
                   have hq5 := hbel5.size
                   clear hown5 hbel5)
                | (refine step_grow rfl (.tmp 43) (.tmp 49) 22 rfl 24 i1 (.int .u32 0) 4 Tryd.underlying22 hi1 hz10 hz11 hz12 rfl (by simp [Act.eval]) rfl (((HOLD.out.drewN 1).below HBEL5.out).more hq5) (Reads.of_own HOWN5.out) (ints_one .u32 (x :: out.drop p)) (by omega) (by omega) (by omega) (by omega) ?_
                   intro g9 c9 w9 hown9 hbel9
                   have HOWN9 := Lib.hid hown9
                   have HBEL9 := Lib.hid hbel9
                   have hq9 := hbel9.size
                   clear hown9 hbel9))
            all_goals
              try go_wp2
              go_roundw
              case rel =>
                have hqw := hbl.out.size
                have hq5' : wr.heap.size ≤ w5.heap.size := hq5
                obtain ⟨_, _, hv9, _, hc9, hc9'⟩ := own_some HOWN9.out (by omega)
                cases hv9
                refine ⟨k + 1, g9, p + (1 + (m - p)), c9, by omega, by go_num, by first | trivial | rfl, by omega, hc9, hc9', ⟨out.take p ++ x :: out.drop p, ?_, HSN.out, ?_⟩, ?_⟩
                · have := HML.out
                  simp only [List.length_append, List.length_cons, List.length_take, List.length_drop]
                  omega
                · have e : (out.take p ++ x :: out.drop p).map (Value.int .u32) = (out.map (Value.int .u32)).take p ++ (.int .u32 x :: (out.drop p).map (Value.int .u32)) := by simp [List.map_take]
                  rw [e]
                  exact HOWN9.out.mono (by omega)
                · exact ((below_drewS hbl.out 1).trans (HBEL5.out.mono hqw)).trans (HBEL9.out.mono (by omega))
              case measure => simp [intOf]; omega
        · have hpe : p = m := by omega
          have d1 : decide ((p : Int) < (m : Int)) = false := decide_eq_false (by omega)
          have hdr : out.drop p = [] := by rw [hpe, HML.out]; exact List.drop_length
          have hsn : SetOf (l.take (k + 1)) (out.take p ++ x :: out.drop p) := by
            rw [take_snocI l k HKL.out, ← HX.out]
            have hpt := HSO.out.part (x := x) (m := p) (Nat.le_of_eq (hpe.trans HML.out)) hlo.out (fun h => by have := HML.out; omega)
            refine HSO.out.snoc_new (Nat.le_of_eq (hpe.trans HML.out)) hpt.1 ?_
            rw [hdr]
            simp
          have d1p : (p < m) = False := eq_false (by omega)
          have HPM := Lib.hid hpm
          clear hdr hpe hpm
          have hcutR : ∀ A', A' = (if c = p then some (⟨g, 0, none⟩ : Addr) else some ((⟨g, 0, none⟩ : Addr).add p)) → Reads wr wr.heap.size 1 A' (m - p) ((out.drop p).map (Value.int .u32)) := fun A' hA' => by
            have h := HRO.out.cut (k := p) (cap := c) hp hmc
            rw [hA']
            simpa [List.map_drop] using h
          have hold : Reads wr wr.heap.size 1 (some ⟨g, 0, none⟩) p ((out.map (Value.int .u32)).take p) := HRO.out.take1 hp
          have HCUT := Lib.hid hcutR
          have HOLD := Lib.hid hold
          have HSN := Lib.hid hsn
          clear hcutR hold hsn
          have hj0 : (0 : Int) ≤ (p : Int) := by omega
          have hj1 : (p : Int) ≤ (c : Int) := by omega
          have hj2 : ((p : Int)).toNat = p := by omega
          have hj3 : (p : Int) ≤ (m : Int) := by omega
          have hcm' : c ≤ 9223372036854775807 := by unfold maxLen at hcm; omega
          by_cases hcp : c = p
          all_goals
            go_wp2
            go_region_law (first
              | (refine step_one rfl (.tmp 45) (.tmp 48) 22 rfl 24 i1 (.int .u32 0) 4 Tryd.underlying22 hi1 hz10 hz11 hz12 rfl (wr.drewN 1) rfl rfl rfl ((HCUT.out _ (by simp [hcp, add_lit])).drewN 1) (ints_one .u32 (out.drop p)) (by omega) (by omega) ?_
                 intro g5 c5 w5 hown5 hbel5
                 have HOWN5 := Lib.hid hown5
                 have HBEL5 := Lib.hid hbel5
                 have hq5 := hbel5.size
                 clear hown5 hbel5)
              | (refine step_grow rfl (.tmp 43) (.tmp 49) 22 rfl 24 i1 (.int .u32 0) 4 Tryd.underlying22 hi1 hz10 hz11 hz12 rfl (by simp [Act.eval]) rfl (((HOLD.out.drewN 1).below HBEL5.out).more hq5) (Reads.of_own HOWN5.out) (ints_one .u32 (x :: out.drop p)) (by omega) (by omega) (by omega) (by omega) ?_
                 intro g9 c9 w9 hown9 hbel9
                 have HOWN9 := Lib.hid hown9
                 have HBEL9 := Lib.hid hbel9
                 have hq9 := hbel9.size
                 clear hown9 hbel9))
          all_goals
            try go_wp2
            go_roundw
            case rel =>
              have hqw := hbl.out.size
              have hq5' : wr.heap.size ≤ w5.heap.size := hq5
              obtain ⟨_, _, hv9, _, hc9, hc9'⟩ := own_some HOWN9.out (by omega)
              cases hv9
              refine ⟨k + 1, g9, p + (1 + (m - p)), c9, by omega, by go_num, by first | trivial | rfl, by omega, hc9, hc9', ⟨out.take p ++ x :: out.drop p, ?_, HSN.out, ?_⟩, ?_⟩
              · have := HML.out
                simp only [List.length_append, List.length_cons, List.length_take, List.length_drop]
                omega
              · have e : (out.take p ++ x :: out.drop p).map (Value.int .u32) = (out.map (Value.int .u32)).take p ++ (.int .u32 x :: (out.drop p).map (Value.int .u32)) := by simp [List.map_take]
                rw [e]
                exact HOWN9.out.mono (by omega)
              · exact ((below_drewS hbl.out 1).trans (HBEL5.out.mono hqw)).trans (HBEL9.out.mono (by omega))
            case measure => simp [intOf]; omega
    · obtain rfl : k = N := by omega
      have hkm2 : decide ((k : Int) < (k : Int)) = false := decide_eq_false (by omega)
      obtain ⟨out, rfl, hso, hown⟩ := hst.out
      rw [HN.out, List.take_length] at hso
      have HSO := Lib.hid hso
      have HOWN := Lib.hid hown
      clear hso hown
      go_wp2
      go_ret
      exact ⟨out, g, c, HSO.out, rfl, HOWN.out, hbl.out⟩

set_option maxHeartbeats 8000000 in
set_option maxRecDepth 100000 in
theorem inSetY (w : World) (Al : Option Addr) (cl N : Nat) (l : List Int) (hN : N = l.length) (hr : Reads w w.heap.size 1 Al N (l.map (Value.int .i8))) (hl : N ≤ 1000) :
    Calls Tryd.prog 12 #[.slice Al N cl] w fun e w' => ∃ out g c, SetOf l out ∧ e = .returned (.slice (some ⟨g, 0, none⟩) out.length c) ∧ w'.ownsRow w.heap.size 36 1 (.slice (some ⟨g, 0, none⟩) out.length c) out.length (out.map (Value.int .i8)) ∧ Below w.heap.size w w' := by
  obtain ⟨i1, hi1, hz10, hz11, hz12⟩ := info_parts infoY
  have HR := Lib.hid hr
  have HN := Lib.hid hN
  clear hr hN
  go_enter Tryd.func12, Tryd.ntmps12
  go_wp2
  go_loopw [3, 10] (fun v i wr => ∃ k g m c : Nat, k ≤ N ∧ i = .int .i64 (k : Nat) ∧ v = .slice (some ⟨g, 0, none⟩) m c ∧ m ≤ k ∧ m ≤ c ∧ c ≤ maxLen ∧ Hid (∃ out : List Int, m = out.length ∧ SetOf (l.take k) out ∧ wr.ownsRow w.heap.size 36 1 (.slice (some ⟨g, 0, none⟩) m c) m (out.map (Value.int .i8))) ∧ Hid (Below w.heap.size w wr)) (fun _ i _ => N - (intOf i).toNat)
  case atStart =>
    exact ⟨0, _, 0, 0, Nat.zero_le _, rfl, rfl, Nat.le_refl _, Nat.le_refl _, by simp [maxLen], ⟨[], rfl, by rw [List.take_zero]; exact SetOf.nil, World.ownsRow_made w _ 0 (Nat.le_refl _) (by simp) (by simp)⟩, (Below.refl _ _).alloc (Nat.le_refl _) _⟩
  case round =>
    obtain ⟨k, g, m, c, hk, rfl, rfl, hmk, hmc, hcm, hst, hbl⟩ := hrel
    by_cases hlt : k < N
    · have hkm2 : decide ((k : Int) < (N : Int)) = true := decide_eq_true (by omega)
      obtain ⟨ad, hA, hadB, hkl, hcell0⟩ := HR.out.list hlt
      subst hA
      have hcell : wr.cell? (ad.add k) = some (.int .i8 (l.getD k 0)) := (hbl.out.cell (by rw [block_of_add]; exact hadB)).trans hcell0
      obtain ⟨x, hX⟩ : ∃ x, x = l.getD k 0 := ⟨_, rfl⟩
      rw [← hX] at hcell
      have HX := Lib.hid hX
      have HKL := Lib.hid hkl
      clear hcell0 hX hkl
      obtain ⟨out, hml, hso, hown⟩ := hst.out
      have HML := Lib.hid hml
      have HSO := Lib.hid hso
      have HOWN := Lib.hid hown
      have hro : Reads wr wr.heap.size 1 (some ⟨g, 0, none⟩) m (out.map (Value.int .i8)) := Reads.of_own hown
      have HRO := Lib.hid hro
      clear hml hso hown hro
      go_wp2
      go_loopw [6] (fun j wr2 => ∃ p : Nat, p ≤ m ∧ j = .int .i64 (p : Nat) ∧ wr2 = wr ∧ Hid (∀ j (hj : j < out.length), j < p → out[j] < x)) (fun j _ => m - (intOf j).toNat)
      case atStart => exact ⟨0, Nat.zero_le _, rfl, rfl, fun j hj h => by omega⟩
      case round =>
        obtain ⟨p, hp, rfl, rfl, hlo⟩ := hrel
        rcases Nat.lt_or_ge p m with hpm | hpm
        · have d1 : decide ((p : Int) < (m : Int)) = true := decide_eq_true (by omega)
          have hpo : p < out.length := by rw [← HML.out]; exact hpm
          obtain ⟨ad2, hA2, _, _, hy⟩ := HRO.out.list hpm
          cases hA2
          rw [add_lit, Nat.zero_add] at hy
          have hyo : out.getD p 0 = out[p] := by simp [List.getD, hpo]
          rw [hyo] at hy
          obtain ⟨y, hY⟩ : ∃ y, y = out[p] := ⟨_, rfl⟩
          rw [← hY] at hy
          have HY := Lib.hid hY
          clear hyo
          rcases Int.lt_trichotomy y x with hyx | hyx | hyx
          · have d2 : decide (y < x) = true := decide_eq_true hyx
            clear hY
            go_wp2
            go_roundw
            case rel =>
              refine ⟨p + 1, by omega, by go_num, by first | trivial | rfl, fun j hj h => ?_⟩
              rcases Nat.lt_or_ge j p with h' | h'
              · exact hlo.out j hj h'
              · have : j = p := by omega
                subst this
                rw [← HY.out]; exact hyx
            case measure => simp [intOf]; omega
          · have d2 : decide (y < x) = false := decide_eq_false (by omega)
            have d3 : decide (y = x) = true := decide_eq_true hyx
            have d4 : (y == x) = true := by simp [hyx]
            have hsn : SetOf (l.take (k + 1)) out := by
              rw [take_snocI l k HKL.out, ← HX.out]
              exact HSO.out.snoc_old (by rw [← hyx, hY]; exact List.getElem_mem _)
            have HSN := Lib.hid hsn
            clear hsn hY
            go_wp2
            go_roundw
            case rel =>
              exact ⟨k + 1, g, m, c, by omega, by go_num, rfl, by omega, hmc, hcm, ⟨out, HML.out, HSN.out, HOWN.out⟩, hbl.out⟩
            case measure => simp [intOf]; omega
          · have d2 : decide (y < x) = false := decide_eq_false (by omega)
            have d3 : decide (y = x) = false := decide_eq_false (by omega)
            have d4 : (y == x) = false := by simp; omega
            have hsn : SetOf (l.take (k + 1)) (out.take p ++ x :: out.drop p) := by
              rw [take_snocI l k HKL.out, ← HX.out]
              have hpt := HSO.out.part (x := x) (m := p) (by omega) hlo.out (fun _ => by rw [← hY]; omega)
              exact HSO.out.snoc_new (by omega) hpt.1 (hpt.2.2 hpo (by rw [← hY]; omega))
            clear hY
            have hcutR : ∀ A', A' = (if c = p then some (⟨g, 0, none⟩ : Addr) else some ((⟨g, 0, none⟩ : Addr).add p)) → Reads wr wr.heap.size 1 A' (m - p) ((out.drop p).map (Value.int .i8)) := fun A' hA' => by
              have h := HRO.out.cut (k := p) (cap := c) hp hmc
              rw [hA']
              simpa [List.map_drop] using h
            have hold : Reads wr wr.heap.size 1 (some ⟨g, 0, none⟩) p ((out.map (Value.int .i8)).take p) := HRO.out.take1 hp
            have HCUT := Lib.hid hcutR
            have HOLD := Lib.hid hold
            have HSN := Lib.hid hsn
            clear hcutR hold hsn
            have hj0 : (0 : Int) ≤ (p : Int) := by omega
            have hj1 : (p : Int) ≤ (c : Int) := by omega
            have hj2 : ((p : Int)).toNat = p := by omega
            have hj3 : (p : Int) ≤ (m : Int) := by omega
            have hcm' : c ≤ 9223372036854775807 := by unfold maxLen at hcm; omega
            by_cases hcp : c = p
            all_goals
              go_wp2
              go_region_law (first
                | (refine step_one rfl (.tmp 45) (.tmp 48) 34 rfl 36 i1 (.int .i8 0) 1 Tryd.underlying34 hi1 hz10 hz11 hz12 rfl (wr.drewN 1) rfl rfl rfl ((HCUT.out _ (by simp [hcp, add_lit])).drewN 1) (ints_one .i8 (out.drop p)) (by omega) (by omega) ?_
                   intro g5 c5 w5 hown5 hbel5
                   have HOWN5 := Lib.hid hown5
                   have HBEL5 := Lib.hid hbel5
                   have hq5 := hbel5.size
                   clear hown5 hbel5)
                | (refine step_grow rfl (.tmp 43) (.tmp 49) 34 rfl 36 i1 (.int .i8 0) 1 Tryd.underlying34 hi1 hz10 hz11 hz12 rfl (by simp [Act.eval]) rfl (((HOLD.out.drewN 1).below HBEL5.out).more hq5) (Reads.of_own HOWN5.out) (ints_one .i8 (x :: out.drop p)) (by omega) (by omega) (by omega) (by omega) ?_
                   intro g9 c9 w9 hown9 hbel9
                   have HOWN9 := Lib.hid hown9
                   have HBEL9 := Lib.hid hbel9
                   have hq9 := hbel9.size
                   clear hown9 hbel9))
            all_goals
              try go_wp2
              go_roundw
              case rel =>
                have hqw := hbl.out.size
                have hq5' : wr.heap.size ≤ w5.heap.size := hq5
                obtain ⟨_, _, hv9, _, hc9, hc9'⟩ := own_some HOWN9.out (by omega)
                cases hv9
                refine ⟨k + 1, g9, p + (1 + (m - p)), c9, by omega, by go_num, by first | trivial | rfl, by omega, hc9, hc9', ⟨out.take p ++ x :: out.drop p, ?_, HSN.out, ?_⟩, ?_⟩
                · have := HML.out
                  simp only [List.length_append, List.length_cons, List.length_take, List.length_drop]
                  omega
                · have e : (out.take p ++ x :: out.drop p).map (Value.int .i8) = (out.map (Value.int .i8)).take p ++ (.int .i8 x :: (out.drop p).map (Value.int .i8)) := by simp [List.map_take]
                  rw [e]
                  exact HOWN9.out.mono (by omega)
                · exact ((below_drewS hbl.out 1).trans (HBEL5.out.mono hqw)).trans (HBEL9.out.mono (by omega))
              case measure => simp [intOf]; omega
        · have hpe : p = m := by omega
          have d1 : decide ((p : Int) < (m : Int)) = false := decide_eq_false (by omega)
          have hdr : out.drop p = [] := by rw [hpe, HML.out]; exact List.drop_length
          have hsn : SetOf (l.take (k + 1)) (out.take p ++ x :: out.drop p) := by
            rw [take_snocI l k HKL.out, ← HX.out]
            have hpt := HSO.out.part (x := x) (m := p) (Nat.le_of_eq (hpe.trans HML.out)) hlo.out (fun h => by have := HML.out; omega)
            refine HSO.out.snoc_new (Nat.le_of_eq (hpe.trans HML.out)) hpt.1 ?_
            rw [hdr]
            simp
          have d1p : (p < m) = False := eq_false (by omega)
          have HPM := Lib.hid hpm
          clear hdr hpe hpm
          have hcutR : ∀ A', A' = (if c = p then some (⟨g, 0, none⟩ : Addr) else some ((⟨g, 0, none⟩ : Addr).add p)) → Reads wr wr.heap.size 1 A' (m - p) ((out.drop p).map (Value.int .i8)) := fun A' hA' => by
            have h := HRO.out.cut (k := p) (cap := c) hp hmc
            rw [hA']
            simpa [List.map_drop] using h
          have hold : Reads wr wr.heap.size 1 (some ⟨g, 0, none⟩) p ((out.map (Value.int .i8)).take p) := HRO.out.take1 hp
          have HCUT := Lib.hid hcutR
          have HOLD := Lib.hid hold
          have HSN := Lib.hid hsn
          clear hcutR hold hsn
          have hj0 : (0 : Int) ≤ (p : Int) := by omega
          have hj1 : (p : Int) ≤ (c : Int) := by omega
          have hj2 : ((p : Int)).toNat = p := by omega
          have hj3 : (p : Int) ≤ (m : Int) := by omega
          have hcm' : c ≤ 9223372036854775807 := by unfold maxLen at hcm; omega
          by_cases hcp : c = p
          all_goals
            go_wp2
            go_region_law (first
              | (refine step_one rfl (.tmp 45) (.tmp 48) 34 rfl 36 i1 (.int .i8 0) 1 Tryd.underlying34 hi1 hz10 hz11 hz12 rfl (wr.drewN 1) rfl rfl rfl ((HCUT.out _ (by simp [hcp, add_lit])).drewN 1) (ints_one .i8 (out.drop p)) (by omega) (by omega) ?_
                 intro g5 c5 w5 hown5 hbel5
                 have HOWN5 := Lib.hid hown5
                 have HBEL5 := Lib.hid hbel5
                 have hq5 := hbel5.size
                 clear hown5 hbel5)
              | (refine step_grow rfl (.tmp 43) (.tmp 49) 34 rfl 36 i1 (.int .i8 0) 1 Tryd.underlying34 hi1 hz10 hz11 hz12 rfl (by simp [Act.eval]) rfl (((HOLD.out.drewN 1).below HBEL5.out).more hq5) (Reads.of_own HOWN5.out) (ints_one .i8 (x :: out.drop p)) (by omega) (by omega) (by omega) (by omega) ?_
                 intro g9 c9 w9 hown9 hbel9
                 have HOWN9 := Lib.hid hown9
                 have HBEL9 := Lib.hid hbel9
                 have hq9 := hbel9.size
                 clear hown9 hbel9))
          all_goals
            try go_wp2
            go_roundw
            case rel =>
              have hqw := hbl.out.size
              have hq5' : wr.heap.size ≤ w5.heap.size := hq5
              obtain ⟨_, _, hv9, _, hc9, hc9'⟩ := own_some HOWN9.out (by omega)
              cases hv9
              refine ⟨k + 1, g9, p + (1 + (m - p)), c9, by omega, by go_num, by first | trivial | rfl, by omega, hc9, hc9', ⟨out.take p ++ x :: out.drop p, ?_, HSN.out, ?_⟩, ?_⟩
              · have := HML.out
                simp only [List.length_append, List.length_cons, List.length_take, List.length_drop]
                omega
              · have e : (out.take p ++ x :: out.drop p).map (Value.int .i8) = (out.map (Value.int .i8)).take p ++ (.int .i8 x :: (out.drop p).map (Value.int .i8)) := by simp [List.map_take]
                rw [e]
                exact HOWN9.out.mono (by omega)
              · exact ((below_drewS hbl.out 1).trans (HBEL5.out.mono hqw)).trans (HBEL9.out.mono (by omega))
            case measure => simp [intOf]; omega
    · obtain rfl : k = N := by omega
      have hkm2 : decide ((k : Int) < (k : Int)) = false := decide_eq_false (by omega)
      obtain ⟨out, rfl, hso, hown⟩ := hst.out
      rw [HN.out, List.take_length] at hso
      have HSO := Lib.hid hso
      have HOWN := Lib.hid hown
      clear hso hown
      go_wp2
      go_ret
      exact ⟨out, g, c, HSO.out, rfl, HOWN.out, hbl.out⟩
end Go.Proofs.YtikpmeedjdddoaaDoor
