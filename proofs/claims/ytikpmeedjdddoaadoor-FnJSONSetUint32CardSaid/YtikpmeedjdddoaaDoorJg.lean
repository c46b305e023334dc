/- The reference's reader of JSON, at a list of numbers. PRINTED by wip/genjg.py. -/
import Derived.Test.YtikpmeedjdddoaaDoorJf
namespace Go.Proofs.YtikpmeedjdddoaaDoor
open Go.RowKit
set_option linter.unusedVariables false

theorem bel_set5J {B b : Nat} {w W : World} (h : Below B w W) (hb : B ≤ b) (x0 x1 x2 x3 x4 : Value) : Below B w (((((W.setCell ⟨b, 0, none⟩ x0).setCell ⟨b, 1, none⟩ x1).setCell ⟨b, 2, none⟩ x2).setCell ⟨b, 3, none⟩ x3).setCell ⟨b, 4, none⟩ x4) :=
  ((((h.setCell hb _).setCell hb _).setCell hb _).setCell hb _).setCell hb _
/-- What is read: a list as a value. -/
def LJ (l : List Int) : List Value := l.flatMap fun x => n5 (kdJ x) (IntKind.u64.wrap x)

set_option maxHeartbeats 4000000 in
set_option maxRecDepth 100000 in
theorem value_list (w : World) (g : Nat) (s : ByteArray) (l T : List Int) (hT : T = 91 :: (jn l ++ [93])) (hs : StrJ s T) (n : Nat) (hn : n = l.length) (hn0 : 0 < n) (hn1 : n ≤ 1000) (hwf : ∀ x ∈ l, -4294967296 ≤ x ∧ x ≤ 4294967295) (h : JB w g s ((0 : Nat) : Int)) :
    Calls Tryd.prog 21 #[.pointer (some ⟨g, 0, none⟩), .int .i64 50] w fun e w' => ∃ A c, e = .returned (.agg #[.int .i64 8, .int .u64 0, .string ⟨#[]⟩, .int .i64 0, .slice A n c]) ∧ w'.ownsRow w.heap.size 28 5 (.slice A n c) n (LJ l) ∧ JB w' g s ((T.length : Nat) : Int) ∧ w.grownBy w' (some g) := by
  obtain ⟨w1, hw1e⟩ : ∃ w1, w1 = w.alloc (.cells #[.int .i64 0, .int .u64 0, .string ⟨#[]⟩, .int .i64 0, .slice none 0 0] 28) := ⟨_, rfl⟩
  have hgw := h.lt
  have HJ1 : Hid (JB w1 g s ((0 : Nat) : Int)) := by rw [hw1e]; exact h.alloc _
  have HP1 : Hid (Blk w1 w.heap.size 28 z5J) := by rw [hw1e]; exact Blk.new w _ z5J
  have HG1 : Hid (w.grownBy w1 (some g)) := by rw [hw1e]; exact World.grownBy_alloc _ _ _
  have hlt : 0 < T.length := by rw [hT]; simp
  have hb : T.getD 0 0 = 91 := by rw [hT]; rfl
  have hix := hs.index hlt hb
  have hbl := blank_calls w1 g 0 s T hs HJ1.out (by omega) (fun _ => by rw [hb]; unfold NoBlank; omega)
  have hlist := fun m => list_calls (w1.drewN m) g s l T hT hs n hn hn0 hn1 hwf (HJ1.out.drewN m)
  have hwn := fun m (s0 : ByteArray) (c0 : Int) (hne : 91 ≠ c0) (p1 : 1 ≤ s0.size) (p2 : s0.size ≤ 10) (p3 : ((s0.data.toList.getD 0 0).toNat : Int) = c0) => word_no (w1.drewN m) g 0 s s0 T hs (HJ1.out.drewN m) hlt 91 c0 hb hne p1 p2 p3
  have HWN1 := Lib.hid (fun m => hwn m ⟨#[110, 117, 108, 108]⟩ 110 (by omega) (by decide) (by decide) rfl)
  have HWN2 := Lib.hid (fun m => hwn m ⟨#[116, 114, 117, 101]⟩ 116 (by omega) (by decide) (by decide) rfl)
  have HWN3 := Lib.hid (fun m => hwn m ⟨#[102, 97, 108, 115, 101]⟩ 102 (by omega) (by decide) (by decide) rfl)
  have HLIST := Lib.hid hlist
  have HBL := Lib.hid hbl
  have hss : 0 < s.size := by have := hs.1; omega
  have d0 : decide ((s.size : Int) ≤ 0) = false := decide_eq_false (by omega)
  have dn2 : decide (s = ByteArray.empty) = false := decide_eq_false (fun e => by rw [e] at hss; exact absurd hss (by decide))
  have r0 := HJ1.out.cell 0
  have r1 := HJ1.out.cell 1
  have r2 := HJ1.out.cell 2
  simp only [List.getElem?_cons_zero, List.getElem?_cons_succ, Int.natCast_zero] at r0 r1 r2 hix
  have HW1 := Lib.hid hw1e
  obtain ⟨z, hz⟩ : ∃ z, z = LJ l := ⟨_, rfl⟩
  have hze : (l.flatMap fun x => n5 (kdJ x) (IntKind.u64.wrap x)) = z := hz.symm
  rw [hze] at HLIST
  rw [← hz]
  clear hs hT h hlist hbl hwn hw1e hb hlt hss hwf hn hz hze
  go_enter Tryd.func21, Tryd.ntmps21
  go_wp2_with (
    (go_at_call 22)
    go_must (
      rw [← HW1.out]
      (refine HBL.out.mono ?_)
      rintro e w2 ⟨rfl, n1, rfl⟩))
  go_quiet (fail)
  go_wp2
  go_quiet (fail)
  go_wp2_with (first
    | (go_at_call 30
       (first
         | (with_reducible refine (HWN1.out _).mono ?_)
         | (with_reducible refine (HWN2.out _).mono ?_)
         | (with_reducible refine (HWN3.out _).mono ?_))
       rintro e w2 ⟨rfl, n2, rfl⟩)
    | (go_at_call 32
       go_must (
         (refine (HLIST.out _).mono ?_)
         rintro e w3 ⟨A3, c3, rfl, ho3, hj3, hg3⟩
         have hp3 : Blk w3 w.heap.size 28 z5J := (HP1.out.drewN _).grown hg3 (by intro e; injection e with e; omega)
         obtain ⟨c0, c1, c2, c3', c4⟩ := blk_cells5 hp3
         have fz : ∀ j, w3.frozen? ⟨w.heap.size, j, none⟩ = false := fun j => hp3.frozen j
         have hsz1 : (w1.drewN 0).heap.size = w.heap.size + 1 := by rw [HW1.out]; simp
         have ho3' : w3.ownsRow (w.heap.size + 1) 28 5 (.slice A3 n c3) n z := by
           have : w1.heap.size = w.heap.size + 1 := hsz1
           rw [← this]; exact ho3
         have HP3 := Lib.hid hp3
         have HO3 := Lib.hid ho3'
         have HJ3 := Lib.hid hj3
         have HG3 : Hid (w.grownBy w3 (some g)) := grownJ_trans (grownJ_drewN HG1.out _) hg3
         clear hp3 hj3 hg3 ho3 ho3' hsz1)))
  (try simp only [Exit.inBlock, Exit.then])
  refine bodyPost_ret (results_cell0 rfl _ rfl (blk_set5 HP3.out _ _ _ _ _) Tryd.underlying28 rfl (by kernel_rfl)) rfl ?_
  exact ⟨A3, c3, rfl, own_lowerJ (own_set5J HO3.out (fun e => by have := (HO3.out.lt _ e.symm).1; omega) _ _ _ _ _) (by omega), far_set5J HJ3.out (Nat.ne_of_lt hgw) _ _ _ _ _, grownJ_far5 HG3.out (Nat.le_refl _) _ _ _ _ _⟩

set_option maxHeartbeats 4000000 in
set_option maxRecDepth 100000 in
theorem readJ (w : World) (s : ByteArray) (l T : List Int) (hT : T = 91 :: (jn l ++ [93])) (hs : StrJ s T) (n : Nat) (hn : n = l.length) (hn0 : 0 < n) (hn1 : n ≤ 1000) (hwf : ∀ x ∈ l, -4294967296 ≤ x ∧ x ≤ 4294967295) :
    Calls Tryd.prog 9 #[.string s] w fun e w' => ∃ A c, e = .returned (.tuple #[.agg #[.int .i64 8, .int .u64 0, .string ⟨#[]⟩, .int .i64 0, .slice A n c], .bool true]) ∧ w'.ownsRow w.heap.size 28 5 (.slice A n c) n (LJ l) ∧ Below w.heap.size w w' := by
  obtain ⟨w1, hw1e⟩ : ∃ w1, w1 = (w.alloc (.cells #[.int .i64 0, .int .u64 0, .string ⟨#[]⟩, .int .i64 0, .slice none 0 0] 28)).alloc (.cells #[.string s, .int .i64 0, .bool false] 61) := ⟨_, rfl⟩
  have HJ1 : Hid (JB w1 (w.heap.size + 1) s ((0 : Nat) : Int)) := by
    rw [hw1e]
    have := Blk.new (w.alloc (.cells #[.int .i64 0, .int .u64 0, .string ⟨#[]⟩, .int .i64 0, .slice none 0 0] 28)) 61 [.string s, .int .i64 0, .bool false]
    rwa [World.size_alloc] at this
  have HP1 : Hid (Blk w1 w.heap.size 28 z5J) := by rw [hw1e]; exact (Blk.new w _ z5J).alloc _
  have HB1 : Hid (Below w.heap.size w w1) := by rw [hw1e]; exact ((Below.refl _ _).alloc (Nat.le_refl _) _).alloc (by simp) _
  have hsz1 : w1.heap.size = w.heap.size + 2 := by rw [hw1e]; simp
  have hv := value_list w1 (w.heap.size + 1) s l T hT hs n hn hn0 hn1 hwf HJ1.out
  have HV := Lib.hid hv
  have HS := Lib.hid hs
  have HW1 := Lib.hid hw1e
  obtain ⟨z, hz⟩ : ∃ z, z = LJ l := ⟨_, rfl⟩
  rw [← hz] at HV ⊢
  clear hv hs hw1e hT hn hwf hz
  go_enter Tryd.func9, Tryd.ntmps9
  go_wp2_with (first
    | (go_at_call 21
       go_must (
         rw [← HW1.out]
         (refine HV.out.mono ?_)
         rintro e w2 ⟨A2, c2, rfl, ho2, hj2, hg2⟩
         have hq2 : w.heap.size + 2 ≤ w2.heap.size := by rw [← hsz1]; exact hg2.size
         have hbl := fun W (hW : JB W (w.heap.size + 1) s ((T.length : Nat) : Int)) => blank_calls W (w.heap.size + 1) T.length s T HS.out hW (Nat.le_refl _) (fun h => absurd h (Nat.lt_irrefl _))
         have HBL := Lib.hid hbl
         have HP2 : Hid (Blk w2 w.heap.size 28 z5J) := HP1.out.grown hg2 (by intro e; injection e with e; omega)
         have HJ2 := Lib.hid hj2
         have HO2 : Hid (w2.ownsRow (w.heap.size + 2) 28 5 (.slice A2 n c2) n z) := own_lowerJ ho2 (by omega)
         have HB2 : Hid (Below w.heap.size w w2) := HB1.out.grown hg2 (by omega) (fun j hj => by cases hj; omega)
         clear ho2 hj2 hg2 hbl))
    | (go_at_call 22
       go_must (
         (refine (HBL.out _ (HJ2.out.alloc _)).mono ?_)
         rintro e w4 ⟨rfl, n4, hw4e⟩
         obtain ⟨w5, hw5e⟩ : ∃ w5, w5 = w2.alloc (.cells #[.int .i64 8, .int .u64 0, .string ⟨#[]⟩, .int .i64 0, .slice A2 n c2] 28) := ⟨_, rfl⟩
         rw [← hw5e] at hw4e
         have HJ5 : Hid (JB w4 (w.heap.size + 1) s ((T.length : Nat) : Int)) := by rw [hw4e, hw5e]; exact (HJ2.out.alloc _).drewN _
         have HP5 : Hid (Blk w4 w.heap.size 28 z5J) := by rw [hw4e, hw5e]; exact (HP2.out.alloc _).drewN _
         have HV5 : Hid (Blk w4 w2.heap.size 28 [.int .i64 8, .int .u64 0, .string ⟨#[]⟩, .int .i64 0, .slice A2 n c2]) := by rw [hw4e, hw5e]; exact (Blk.new w2 _ [_, _, _, _, _]).drewN _
         have HO5 : Hid (w4.ownsRow (w.heap.size + 2) 28 5 (.slice A2 n c2) n z) := by rw [hw4e, hw5e]; exact (HO2.out.alloc _)
         have HB5 : Hid (Below w.heap.size w w4) := by rw [hw4e, hw5e]; exact below_drewN (HB2.out.alloc HB2.out.size _) _
         obtain ⟨c0, c1, c2', c3, c4⟩ := blk_cells5 HP5.out
         obtain ⟨e0, e1, e2, e3, e4⟩ := blk_cells5 HV5.out
         have fz : ∀ j, w4.frozen? ⟨w.heap.size, j, none⟩ = false := fun j => HP5.out.frozen j
         have j1 := HJ5.out.cell 1
         have j2 := HJ5.out.cell 2
         simp only [List.getElem?_cons_zero, List.getElem?_cons_succ] at j1 j2
         have hq5 : w2.heap.size < w4.heap.size := HV5.out.lt
         clear hw4e hw5e)))
  have dT : ((T.length : Int) == (s.size : Int)) = true := by rw [beq_iff_eq]; have := HS.out.1; omega
  go_region
  all_goals
    go_wp2
    (try simp only [Exit.inBlock, Exit.then])
    refine bodyPost_ret (results_cell1 rfl _ rfl ((blk_set5 HP5.out _ _ _ _ _).drewN 1) Tryd.underlying28 rfl (by kernel_rfl)) rfl ?_
    refine ⟨A2, c2, rfl, ?_, ?_⟩
    · exact own_lowerJ (own_set5J HO5.out (fun e => by have := (HO5.out.lt _ e.symm).1; omega) _ _ _ _ _) (by omega)
    · exact below_drewN (bel_set5J HB5.out (Nat.le_refl _) _ _ _ _ _) 1
end Go.Proofs.YtikpmeedjdddoaaDoor
