/- spec.TakeHead at heads of maps. PRINTED by wip/genmap.py. -/
import Derived.Test.YtohainhkplombaaMp
import Derived.Test.YtohainhkplombaaMv
import Derived.Test.YtohainhkplombaaKl
namespace Go.Proofs.Ytohainhkplombaa
open Go.RowKit
set_option linter.unusedVariables false
theorem results_tmp4 {fn : Func} {t u v x : Tmp} (h : fn.results = #[.tmp t, .tmp u, .tmp v, .tmp x]) (tmps : Array Value) (P : Program) (w : World) :
    (results fn tmps).run P w = .ok (.tuple #[tmps.getD t undef, tmps.getD u undef, tmps.getD v undef, tmps.getD x undef]) w := by
  simp [results, h]
theorem and15i (u : Int) (h0 : 0 ≤ u) (h1 : u ≤ 255) : bits .and .i64 u 15 = u % 16 := u8_all (p := fun u => bits .and .i64 u 15 = u % 16) (by decide +kernel) u h0 h1
/-- A head was read, and what stands behind it is told. -/
def Headed (w : World) (B : Nat) (k u : Int) (l : List Int) (e : Ending) (w' : World) : Prop :=
  ∃ A' c', e = .returned (.tuple #[.int .i64 k, .int .u64 u, .slice A' l.length c', .bool true]) ∧ l.length ≤ c' ∧ c' ≤ maxLen ∧ Reads w' B 1 A' l.length (bs l) ∧ Below w.heap.size w w'

set_option maxHeartbeats 1000000 in
set_option maxRecDepth 100000 in
theorem TakeHead_fix (w : World) (B c : Nat) (A : Option Addr) (b : Int) (r : List Int) (h : Reads w B 1 A (b :: r).length (bs (b :: r))) (hB : B ≤ w.heap.size) (hc : (b :: r).length ≤ c) (hm : c ≤ maxLen) (hb2 : 128 ≤ b) (hb3 : b < 144) :
    Calls Try.prog 22 #[.slice A (b :: r).length c] w (Headed w B 9 (b - 128) r) := by
  have H := Lib.hid h
  have hm' : c ≤ 9223372036854775807 := by unfold maxLen at hm; omega
  have hc' : r.length + 1 ≤ c := by simpa using hc
  obtain ⟨ad, rfl, hadB, hcell⟩ := h.byte (k := 0) (by simp)
  have hcell0 : w.cell? ad = some (.int .u8 b) := by
    rw [Addr.add_zero'] at hcell; simpa using hcell
  have hadb : ad.block < w.heap.size := by omega
  have hR : ∀ A', (A' = if c = 1 then some ad else (some ad).map (·.add 1)) → Reads w B 1 A' r.length (bs r) := fun A' hA' => by
    have := reads_cut (k := 1) h (by simp) hc hA'
    simpa using this
  have HR := Lib.hid hR
  clear h hcell hR hc
  have hand : bits .and .i64 b 15 = b - 128 := by rw [and15i b (by omega) (by omega)]; omega
  have hwr : IntKind.u64.wrap (b - 128) = b - 128 := by rw [IntKind.wrap_u64]; omega
  by_cases hc1 : c = 1
  all_goals
    go_enter Try.func22, Try.ntmps22
    go_wp2
    go_quiet (fail)
    go_wp2
    ((try simp only [Exit.inBlock, Exit.then]); refine bodyPost_ret (results_tmp4 rfl _ _ _) rfl ?_)
    exact ⟨_, _, rfl, by omega, by omega, (HR.out _ (by first | rw [if_pos hc1] | (rw [if_neg hc1]; rfl))).drewN nq, below_drewN (Below.refl _ w) nq⟩

set_option maxHeartbeats 4000000 in
set_option maxRecDepth 100000 in
theorem TakeHead_222 (w : World) (B c : Nat) (A : Option Addr) (r : List Int) (h : Reads w B 1 A (222 :: r).length (bs (222 :: r))) (hB : B ≤ w.heap.size) (hl : IsB r) (hk : 2 ≤ r.length) (hc : (222 :: r).length ≤ c) (hm : c ≤ maxLen) :
    Calls Try.prog 22 #[.slice A (222 :: r).length c] w (Headed w B 9 (valBE (r.take 2)) (r.drop 2)) := by
  have H := Lib.hid h
  have hm' : c ≤ 9223372036854775807 := by unfold maxLen at hm; omega
  have hc' : r.length + 1 ≤ c := by simpa using hc
  obtain ⟨ad, rfl, hadB, hcell⟩ := h.byte (k := 0) (by simp)
  have hcell0 : w.cell? ad = some (.int .u8 222) := by
    rw [Addr.add_zero'] at hcell; simpa using hcell
  have hadb : ad.block < w.heap.size := by omega
  have hR : ∀ A', (A' = if c = 1 then some ad else (some ad).map (·.add 1)) → Reads w B 1 A' r.length (bs r) := fun A' hA' => by
    have := reads_cut (k := 1) h (by simp) hc hA'
    simpa using this
  have HR := Lib.hid hR
  clear h hcell hR hc
  have hc1 : ¬ c = 1 := by omega
  obtain ⟨A2, c2, hl2, hc2, hr2, hcall⟩ := takeBig_abs B (c - 1) 2 2 rfl ((some ad).map (·.add 1)) r hl (by omega) hk (by omega) (by omega)
  have HR1 : Hid (Reads w B 1 ((some ad).map (·.add 1)) r.length (bs r)) := HR.out _ (by rw [if_neg hc1])
  obtain ⟨R2, hR2⟩ : ∃ R2, R2 = r.drop 2 := ⟨_, rfl⟩
  obtain ⟨V2, hV2⟩ : ∃ V2, V2 = valBE (r.take 2) := ⟨_, rfl⟩
  rw [← hR2, ← hV2] at hcall ⊢
  rw [← hR2] at hl2 hr2
  have HCALL := Lib.hid hcall
  have HR2 := Lib.hid hr2
  clear hcall hr2 HR hR2 hV2
  go_enter Try.func22, Try.ntmps22
  go_wp2_with (first
    | ((with_reducible refine gate_makeMap rfl ?_)
       go_must (
         (refine wpList_makeMap_p (w0 := _) rfl 78 rfl (Below.refl _ _) (Nat.le_refl _) ?_)
         intro w1 mb HM))
    | ((with_reducible refine gate_insert rfl ?_)
       go_must (
         (have HM0 := HM)
         clear HM
         refine wpList_insert_p rfl _ _ _ 78 rfl Try.underlying78 _ _ _ rfl rfl rfl HM0 (by simp only [List.length_cons, List.length_nil]; omega) (by omega) (by omega) ?_
         intro w1 HM
         clear HM0))
    | ((with_reducible refine gate_lookup rfl ?_)
       go_must (
         (have HM0 := HM)
         clear HM
         refine wpList_lookup_p rfl _ _ 78 rfl Try.underlying78 _ rfl rfl HM0 (by omega) (by omega) 9 2 rfl ?_
         obtain ⟨-, hbel, -, hsz⟩ := HM0
         have HBEL := Lib.hid hbel
         clear hbel)))
  have hblk : Blk (w1.alloc (.cells #[.int .i64 9, .int .i64 2] 77)) w1.heap.size 77 [.int .i64 9, .int .i64 2] := Blk.new w1 _ [_, _]
  have q0 := hblk.cell 0
  have q1 := hblk.cell 1
  clear hblk
  go_quiet ((go_at_call 39; refine Calls.quiet_of (HCALL.out _ (((HR1.out.below (HBEL.out.mono hB)).alloc (by omega) _).drewN _))))
  go_wp2
  ((try simp only [Exit.inBlock, Exit.then]); refine bodyPost_ret (results_tmp4 rfl _ _ _) rfl ?_)
  exact ⟨A2, c2, rfl, hl2, by omega, ((((HR2.out w HR1.out).below (HBEL.out.mono hB)).alloc (by omega) _).drewN nq), below_drewN (HBEL.out.alloc (by omega) _) nq⟩

set_option maxHeartbeats 4000000 in
set_option maxRecDepth 100000 in
theorem TakeHead_223 (w : World) (B c : Nat) (A : Option Addr) (r : List Int) (h : Reads w B 1 A (223 :: r).length (bs (223 :: r))) (hB : B ≤ w.heap.size) (hl : IsB r) (hk : 4 ≤ r.length) (hc : (223 :: r).length ≤ c) (hm : c ≤ maxLen) :
    Calls Try.prog 22 #[.slice A (223 :: r).length c] w (Headed w B 9 (valBE (r.take 4)) (r.drop 4)) := by
  have H := Lib.hid h
  have hm' : c ≤ 9223372036854775807 := by unfold maxLen at hm; omega
  have hc' : r.length + 1 ≤ c := by simpa using hc
  obtain ⟨ad, rfl, hadB, hcell⟩ := h.byte (k := 0) (by simp)
  have hcell0 : w.cell? ad = some (.int .u8 223) := by
    rw [Addr.add_zero'] at hcell; simpa using hcell
  have hadb : ad.block < w.heap.size := by omega
  have hR : ∀ A', (A' = if c = 1 then some ad else (some ad).map (·.add 1)) → Reads w B 1 A' r.length (bs r) := fun A' hA' => by
    have := reads_cut (k := 1) h (by simp) hc hA'
    simpa using this
  have HR := Lib.hid hR
  clear h hcell hR hc
  have hc1 : ¬ c = 1 := by omega
  obtain ⟨A2, c2, hl2, hc2, hr2, hcall⟩ := takeBig_abs B (c - 1) 4 4 rfl ((some ad).map (·.add 1)) r hl (by omega) hk (by omega) (by omega)
  have HR1 : Hid (Reads w B 1 ((some ad).map (·.add 1)) r.length (bs r)) := HR.out _ (by rw [if_neg hc1])
  obtain ⟨R2, hR2⟩ : ∃ R2, R2 = r.drop 4 := ⟨_, rfl⟩
  obtain ⟨V2, hV2⟩ : ∃ V2, V2 = valBE (r.take 4) := ⟨_, rfl⟩
  rw [← hR2, ← hV2] at hcall ⊢
  rw [← hR2] at hl2 hr2
  have HCALL := Lib.hid hcall
  have HR2 := Lib.hid hr2
  clear hcall hr2 HR hR2 hV2
  go_enter Try.func22, Try.ntmps22
  go_wp2_with (first
    | ((with_reducible refine gate_makeMap rfl ?_)
       go_must (
         (refine wpList_makeMap_p (w0 := _) rfl 78 rfl (Below.refl _ _) (Nat.le_refl _) ?_)
         intro w1 mb HM))
    | ((with_reducible refine gate_insert rfl ?_)
       go_must (
         (have HM0 := HM)
         clear HM
         refine wpList_insert_p rfl _ _ _ 78 rfl Try.underlying78 _ _ _ rfl rfl rfl HM0 (by simp only [List.length_cons, List.length_nil]; omega) (by omega) (by omega) ?_
         intro w1 HM
         clear HM0))
    | ((with_reducible refine gate_lookup rfl ?_)
       go_must (
         (have HM0 := HM)
         clear HM
         refine wpList_lookup_p rfl _ _ 78 rfl Try.underlying78 _ rfl rfl HM0 (by omega) (by omega) 9 4 rfl ?_
         obtain ⟨-, hbel, -, hsz⟩ := HM0
         have HBEL := Lib.hid hbel
         clear hbel)))
  have hblk : Blk (w1.alloc (.cells #[.int .i64 9, .int .i64 4] 77)) w1.heap.size 77 [.int .i64 9, .int .i64 4] := Blk.new w1 _ [_, _]
  have q0 := hblk.cell 0
  have q1 := hblk.cell 1
  clear hblk
  go_quiet ((go_at_call 39; refine Calls.quiet_of (HCALL.out _ (((HR1.out.below (HBEL.out.mono hB)).alloc (by omega) _).drewN _))))
  go_wp2
  ((try simp only [Exit.inBlock, Exit.then]); refine bodyPost_ret (results_tmp4 rfl _ _ _) rfl ?_)
  exact ⟨A2, c2, rfl, hl2, by omega, ((((HR2.out w HR1.out).below (HBEL.out.mono hB)).alloc (by omega) _).drewN nq), below_drewN (HBEL.out.alloc (by omega) _) nq⟩

end Go.Proofs.Ytohainhkplombaa
