/- spec.takeExt, and takeCoded at the codes of extensions. PRINTED by wip/gente.py. -/
import Derived.Test.YtgjkbldgpfaemaaDoorKi
import Derived.Laws.BytesArg
import Derived.RegionTactic
import Derived.BigRegion
import Derived.ChangeAlike
import Derived.StillTailTactics
namespace Go.Proofs.YtgjkbldgpfaemaaDoor
open Go.RowKit
set_option linter.unusedVariables false

set_option maxHeartbeats 2000000 in
set_option maxRecDepth 100000 in
theorem takeExt_int (w : World) (B k c : Nat) (z : Int) (hz : z = (k : Int)) (A : Option Addr) (l : List Int) (h : Reads w B 1 A l.length (bs l)) (hB : B ≤ w.heap.size) (hk1 : 1 ≤ k) (hkl : 1 + k ≤ l.length) (hl0 : l.getD 0 0 = 255) (hc : l.length ≤ c) (hm : c ≤ maxLen) :
    Calls Tryd.prog 23 #[.int .u64 z, .slice A l.length c] w (Coded w B (.agg #[.int .i64 10, .int .u64 0, .string (strOfNums ((l.drop 1).take k)), .int .i64 (-1), .slice none 0 0]) (l.drop (1 + k))) := by
  subst hz
  have hm' : c ≤ 9223372036854775807 := by unfold maxLen at hm; omega
  obtain ⟨ad, rfl, hadB, hcell⟩ := h.byte (k := 0) (by omega)
  rw [Addr.add_zero', hl0] at hcell
  have hadb : ad.block < w.heap.size := by omega
  have R0 : Reads w B 1 (some (ad.add 1)) (l.drop 1).length (bs (l.drop 1)) := by
    have := reads_cut (k := 1) h (by omega) hc rfl
    rwa [if_neg (by omega)] at this
  have R1 : Reads w B 1 (some (ad.add 1)) k (bs ((l.drop 1).take k)) := by
    have := R0.take1 (k := k) (by rw [List.length_drop]; omega)
    rwa [bs_take] at this
  have hcv : ∀ o n c, (convert 22 9 (.slice (some ⟨ad.block, ad.off + 1, none⟩) k c)).run Tryd.prog ((w.alloc o).drewN n) = .ok (.string (strOfNums ((l.drop 1).take k))) ((w.alloc o).drewN n) := fun o n c => conv_reads ((R1.alloc hB o).drewN n) _ _ _ Tryd.underlying22 Tryd.underlying5 Tryd.underlying9
  have hcv1 : ∀ o c, (convert 22 9 (.slice (some ⟨ad.block, ad.off + 1, none⟩) k c)).run Tryd.prog ((w.alloc o).drew) = .ok (.string (strOfNums ((l.drop 1).take k))) ((w.alloc o).drew) := fun o c => conv_reads ((R1.alloc hB o).drewN 1) _ _ _ Tryd.underlying22 Tryd.underlying5 Tryd.underlying9
  have hcv0 : ∀ o c, (convert 22 9 (.slice (some ⟨ad.block, ad.off + 1, none⟩) k c)).run Tryd.prog (w.alloc o) = .ok (.string (strOfNums ((l.drop 1).take k))) (w.alloc o) := fun o c => conv_reads ((R1.alloc hB o).drewN 0) _ _ _ Tryd.underlying22 Tryd.underlying5 Tryd.underlying9
  have hR : ∀ A', (A' = if c = 1 + k then some ad else (some ad).map (·.add (1 + k))) → Reads w B 1 A' (l.drop (1 + k)).length (bs (l.drop (1 + k))) := fun A' hA' => reads_cut h hkl hc hA'
  have HR := Lib.hid hR
  have hd0 : ((l.length : Int) == 0) = false := beq_eq_false_iff_ne.2 (by omega)
  have hd1 : decide ((l.length : Int) - 1 < (k : Int)) = false := decide_eq_false (by omega)
  have hw1 : IntKind.u64.wrap (1 + (k : Int)) = 1 + (k : Int) := by rw [IntKind.wrap_u64]; simp only [maxLen] at hm; omega
  have hw2 : IntKind.u64.wrap ((l.length : Int) - 1) = (l.length : Int) - 1 := by rw [IntKind.wrap_u64]; simp only [maxLen] at hm; omega
  have ht1 : (1 + (k : Int)).toNat = 1 + k := by omega
  have hi1 : (1 : Int) ≤ 1 + (k : Int) := by omega
  have hi2 : 1 + (k : Int) ≤ (l.length : Int) := by omega
  have hi3 : 1 + (k : Int) ≤ (c : Int) := by omega
  have hi4 : 1 + k ≤ c := by omega
  have hc1 : ¬ c = 1 := by omega
  have hj : 1 + k - 1 = k := by omega
  have hll : (l.drop (1 + k)).length = l.length - (1 + k) := List.length_drop
  have hw3 : IntKind.i8.wrap 255 = -1 := by decide
  have hw4 : wrap64 (-1) = -1 := by unfold wrap64; omega
  obtain ⟨S1, hS1⟩ : ∃ S1, S1 = strOfNums ((l.drop 1).take k) := ⟨_, rfl⟩
  rw [← hS1] at hcv hcv1 hcv0 ⊢
  clear hS1
  clear hR R0 R1 h hl0
  by_cases hck : c = 1 + k
  · have hl0 : (l.drop (1 + k)).length = 0 := by omega
    have HL0 := Lib.hid hl0
    have HLL := Lib.hid hll
    clear hl0 hll
    go_enter Tryd.func23, Tryd.ntmps23
    go_wp2
    go_region
    go_wp2
    refine bodyPost_ret (results_cell2 rfl _ rfl ((Blk.new w 29 [_, _, _, _, _]).drewN 1) Tryd.underlying29 rfl (by kernel_rfl)) rfl ?_
    exact ⟨_, _, by rw [HLL.out]; rfl, by rw [HL0.out]; omega, by simp only [maxLen]; omega, ((HR.out _ (by rw [if_pos hck])).alloc hB _).drewN 1, below_drewN ((Below.refl _ w).alloc (Nat.le_refl _) _) 1⟩
  · have HLL := Lib.hid hll
    clear hll
    go_enter Tryd.func23, Tryd.ntmps23
    go_wp2
    go_region
    go_wp2
    refine bodyPost_ret (results_cell2 rfl _ rfl ((Blk.new w 29 [_, _, _, _, _]).drewN 1) Tryd.underlying29 rfl (by kernel_rfl)) rfl ?_
    exact ⟨_, _, by rw [HLL.out]; rfl, by rw [HLL.out]; omega, by omega, ((HR.out _ (by rw [if_neg hck]; rfl)).alloc hB _).drewN 1, below_drewN ((Below.refl _ w).alloc (Nat.le_refl _) _) 1⟩

set_option maxHeartbeats 4000000 in
set_option maxRecDepth 100000 in
theorem coded214 (w : World) (B c : Nat) (A : Option Addr) (l : List Int) (h : Reads w B 1 A l.length (bs l)) (hB : B ≤ w.heap.size) (hl : IsB l) (hkl : 0 + 1 + 4 ≤ l.length) (hl0 : (l.drop 0).getD 0 0 = 255) (hc : l.length ≤ c) (hm : c ≤ maxLen) :
    Calls Tryd.prog 14 #[.int .i64 214, .slice A l.length c, .int .i64 1] w (Coded w B (pk 10 0 (strOfNums (((l.drop 0).drop 1).take 4)) (-1)) ((l.drop 0).drop (1 + 4))) := by
  have H := Lib.hid h
  have HL := Lib.hid hl
  have HL0 := Lib.hid hl0
  clear h hl hl0
  go_enter Tryd.func14, Tryd.ntmps14
  go_wp2_with (first
    | ((with_reducible refine gate_makeMap rfl ?_)
       go_must (
         (refine wpList_makeMap_i (w0 := _) rfl 58 rfl (Below.refl _ _) (Nat.le_refl _) ?_)
         intro w1 mb HM))
    | ((with_reducible refine gate_insert rfl ?_)
       go_must (
         (have HM0 := HM)
         clear HM
         refine wpList_insert_i rfl _ _ _ 58 rfl Tryd.underlying58 _ _ rfl rfl rfl HM0 (by simp only [List.length_cons, List.length_nil]; omega) (by omega) (by omega) (by omega) (by omega) ?_
         intro w1 HM
         clear HM0))
    | ((with_reducible refine gate_lookup rfl ?_)
       go_must (
         (have HM0 := HM)
         clear HM
         refine wpList_lookup_i rfl _ _ 58 rfl Tryd.underlying58 _ rfl rfl HM0 (by omega) (by omega) 0 rfl ?_
         obtain ⟨-, hbel, -, hsz⟩ := HM0
         have HR : Hid (Reads w1 B 1 A l.length (bs l)) := Reads.below ((H.out.alloc hB _).alloc (by simp; omega) _) (hbel.mono (by simp; omega))
         have HBEL : Hid (Below w.heap.size w w1) := (((Below.refl _ w).alloc (Nat.le_refl _) _).alloc (by simp) _).trans (hbel.mono (by simp; omega))
         have HBLK : Hid (Blk w1 w.heap.size 29 _) := Blk.below (((Blk.new w _ [_, _, _, _, _])).alloc _) hbel (by simp; omega)
         have hz : w.heap.size < w1.heap.size := HBLK.out.lt
         clear hbel hsz))
    | (go_at_call 15
       go_must (
         (refine (takeBig_int _ B 0 _ 0 rfl A l HR.out HL.out (by omega) (by omega) hc hm).mono ?_)
         rintro e w2 ⟨A', c', n, rfl, hl', hc', hr', rfl⟩
         have HR2 := Lib.hid hr'
         have hl2 : (l.drop 0).length ≤ c' := hl'
         have hkd : 1 + 4 ≤ (l.drop 0).length := by rw [List.length_drop]; omega
         have HKD := Lib.hid hkd
         have HLD := Lib.hid hl2
         rw [show valBE (l.take 0) = 0 from rfl]
         clear hr' hl' hl2 hkd))
    | (go_at_call 23
       go_must (
         (have ht := (takeExt_int (w1.drewN n) B 4 c' _ rfl A' (l.drop 0) (HR2.out.drewN n) (by have := HBEL.out.size; exact Nat.le_trans hB this) (by omega) HKD.out HL0.out HLD.out (by omega)))
         rw [List.length_drop] at ht
         refine ht.mono ?_
         rintro e w3 ⟨A2, c2, rfl, hl3, hc3, hr3, hbel3⟩
         have hblk : Blk w3 w.heap.size 29 _ := Blk.below (HBLK.out.drewN n) hbel3 hz
         obtain ⟨q0, q1, q2, q3, q4⟩ := blk_cells5 hblk
         have f0 := hblk.frozen 0
         have f1 := hblk.frozen 1
         have f2 := hblk.frozen 2
         have f3 := hblk.frozen 3
         have f4 := hblk.frozen 4
         have HBLK3 := Lib.hid hblk
         have HBEL3 : Hid (Below w.heap.size w w3) := (below_drewN HBEL.out n).trans (hbel3.mono (by have := HBEL.out.size; exact this))
         have HR3 := Lib.hid hr3
         have HL3 := Lib.hid hl3
         obtain ⟨L3, hL3⟩ : ∃ L3, L3 = ((l.drop 0).drop (1 + 4)).length := ⟨_, rfl⟩
         obtain ⟨S3, hS3⟩ : ∃ S3, S3 = strOfNums (((l.drop 0).drop 1).take 4) := ⟨_, rfl⟩
         rw [← hL3, ← hS3]
         have HLL := Lib.hid hL3
         have HSS := Lib.hid hS3
         clear hL3 hS3
         clear hblk hbel3 hr3 hl3)))
  refine bodyPost_ret (results_cell2 rfl _ rfl (blk_set5 HBLK3.out _ _ _ _ _) Tryd.underlying29 rfl (by kernel_rfl)) rfl ?_
  exact ⟨A2, c2, by rw [← HLL.out, ← HSS.out]; rfl, HL3.out, hc3, reads_set5 HR3.out _ hB _ _ _ _ _, below_set5 HBEL3.out _ (Nat.le_refl _) _ _ _ _ _⟩

set_option maxHeartbeats 4000000 in
set_option maxRecDepth 100000 in
theorem coded215 (w : World) (B c : Nat) (A : Option Addr) (l : List Int) (h : Reads w B 1 A l.length (bs l)) (hB : B ≤ w.heap.size) (hl : IsB l) (hkl : 0 + 1 + 8 ≤ l.length) (hl0 : (l.drop 0).getD 0 0 = 255) (hc : l.length ≤ c) (hm : c ≤ maxLen) :
    Calls Tryd.prog 14 #[.int .i64 215, .slice A l.length c, .int .i64 1] w (Coded w B (pk 10 0 (strOfNums (((l.drop 0).drop 1).take 8)) (-1)) ((l.drop 0).drop (1 + 8))) := by
  have H := Lib.hid h
  have HL := Lib.hid hl
  have HL0 := Lib.hid hl0
  clear h hl hl0
  go_enter Tryd.func14, Tryd.ntmps14
  go_wp2_with (first
    | ((with_reducible refine gate_makeMap rfl ?_)
       go_must (
         (refine wpList_makeMap_i (w0 := _) rfl 58 rfl (Below.refl _ _) (Nat.le_refl _) ?_)
         intro w1 mb HM))
    | ((with_reducible refine gate_insert rfl ?_)
       go_must (
         (have HM0 := HM)
         clear HM
         refine wpList_insert_i rfl _ _ _ 58 rfl Tryd.underlying58 _ _ rfl rfl rfl HM0 (by simp only [List.length_cons, List.length_nil]; omega) (by omega) (by omega) (by omega) (by omega) ?_
         intro w1 HM
         clear HM0))
    | ((with_reducible refine gate_lookup rfl ?_)
       go_must (
         (have HM0 := HM)
         clear HM
         refine wpList_lookup_i rfl _ _ 58 rfl Tryd.underlying58 _ rfl rfl HM0 (by omega) (by omega) 0 rfl ?_
         obtain ⟨-, hbel, -, hsz⟩ := HM0
         have HR : Hid (Reads w1 B 1 A l.length (bs l)) := Reads.below ((H.out.alloc hB _).alloc (by simp; omega) _) (hbel.mono (by simp; omega))
         have HBEL : Hid (Below w.heap.size w w1) := (((Below.refl _ w).alloc (Nat.le_refl _) _).alloc (by simp) _).trans (hbel.mono (by simp; omega))
         have HBLK : Hid (Blk w1 w.heap.size 29 _) := Blk.below (((Blk.new w _ [_, _, _, _, _])).alloc _) hbel (by simp; omega)
         have hz : w.heap.size < w1.heap.size := HBLK.out.lt
         clear hbel hsz))
    | (go_at_call 15
       go_must (
         (refine (takeBig_int _ B 0 _ 0 rfl A l HR.out HL.out (by omega) (by omega) hc hm).mono ?_)
         rintro e w2 ⟨A', c', n, rfl, hl', hc', hr', rfl⟩
         have HR2 := Lib.hid hr'
         have hl2 : (l.drop 0).length ≤ c' := hl'
         have hkd : 1 + 8 ≤ (l.drop 0).length := by rw [List.length_drop]; omega
         have HKD := Lib.hid hkd
         have HLD := Lib.hid hl2
         rw [show valBE (l.take 0) = 0 from rfl]
         clear hr' hl' hl2 hkd))
    | (go_at_call 23
       go_must (
         (have ht := (takeExt_int (w1.drewN n) B 8 c' _ rfl A' (l.drop 0) (HR2.out.drewN n) (by have := HBEL.out.size; exact Nat.le_trans hB this) (by omega) HKD.out HL0.out HLD.out (by omega)))
         rw [List.length_drop] at ht
         refine ht.mono ?_
         rintro e w3 ⟨A2, c2, rfl, hl3, hc3, hr3, hbel3⟩
         have hblk : Blk w3 w.heap.size 29 _ := Blk.below (HBLK.out.drewN n) hbel3 hz
         obtain ⟨q0, q1, q2, q3, q4⟩ := blk_cells5 hblk
         have f0 := hblk.frozen 0
         have f1 := hblk.frozen 1
         have f2 := hblk.frozen 2
         have f3 := hblk.frozen 3
         have f4 := hblk.frozen 4
         have HBLK3 := Lib.hid hblk
         have HBEL3 : Hid (Below w.heap.size w w3) := (below_drewN HBEL.out n).trans (hbel3.mono (by have := HBEL.out.size; exact this))
         have HR3 := Lib.hid hr3
         have HL3 := Lib.hid hl3
         obtain ⟨L3, hL3⟩ : ∃ L3, L3 = ((l.drop 0).drop (1 + 8)).length := ⟨_, rfl⟩
         obtain ⟨S3, hS3⟩ : ∃ S3, S3 = strOfNums (((l.drop 0).drop 1).take 8) := ⟨_, rfl⟩
         rw [← hL3, ← hS3]
         have HLL := Lib.hid hL3
         have HSS := Lib.hid hS3
         clear hL3 hS3
         clear hblk hbel3 hr3 hl3)))
  refine bodyPost_ret (results_cell2 rfl _ rfl (blk_set5 HBLK3.out _ _ _ _ _) Tryd.underlying29 rfl (by kernel_rfl)) rfl ?_
  exact ⟨A2, c2, by rw [← HLL.out, ← HSS.out]; rfl, HL3.out, hc3, reads_set5 HR3.out _ hB _ _ _ _ _, below_set5 HBEL3.out _ (Nat.le_refl _) _ _ _ _ _⟩

set_option maxHeartbeats 4000000 in
set_option maxRecDepth 100000 in
theorem coded199 (w : World) (B c : Nat) (A : Option Addr) (l : List Int) (h : Reads w B 1 A l.length (bs l)) (hB : B ≤ w.heap.size) (hl : IsB l) (hkl : 1 + 1 + 12 ≤ l.length) (hl0 : (l.drop 1).getD 0 0 = 255) (hc : l.length ≤ c) (hm : c ≤ maxLen) (hk : valBE (l.take 1) = 12) :
    Calls Tryd.prog 14 #[.int .i64 199, .slice A l.length c, .int .i64 1] w (Coded w B (pk 10 0 (strOfNums (((l.drop 1).drop 1).take 12)) (-1)) ((l.drop 1).drop (1 + 12))) := by
  have H := Lib.hid h
  have HL := Lib.hid hl
  have HL0 := Lib.hid hl0
  have HK := Lib.hid hk
  clear hk
  clear h hl hl0
  go_enter Tryd.func14, Tryd.ntmps14
  go_wp2_with (first
    | ((with_reducible refine gate_makeMap rfl ?_)
       go_must (
         (refine wpList_makeMap_i (w0 := _) rfl 58 rfl (Below.refl _ _) (Nat.le_refl _) ?_)
         intro w1 mb HM))
    | ((with_reducible refine gate_insert rfl ?_)
       go_must (
         (have HM0 := HM)
         clear HM
         refine wpList_insert_i rfl _ _ _ 58 rfl Tryd.underlying58 _ _ rfl rfl rfl HM0 (by simp only [List.length_cons, List.length_nil]; omega) (by omega) (by omega) (by omega) (by omega) ?_
         intro w1 HM
         clear HM0))
    | ((with_reducible refine gate_lookup rfl ?_)
       go_must (
         (have HM0 := HM)
         clear HM
         refine wpList_lookup_i rfl _ _ 58 rfl Tryd.underlying58 _ rfl rfl HM0 (by omega) (by omega) 1 rfl ?_
         obtain ⟨-, hbel, -, hsz⟩ := HM0
         have HR : Hid (Reads w1 B 1 A l.length (bs l)) := Reads.below ((H.out.alloc hB _).alloc (by simp; omega) _) (hbel.mono (by simp; omega))
         have HBEL : Hid (Below w.heap.size w w1) := (((Below.refl _ w).alloc (Nat.le_refl _) _).alloc (by simp) _).trans (hbel.mono (by simp; omega))
         have HBLK : Hid (Blk w1 w.heap.size 29 _) := Blk.below (((Blk.new w _ [_, _, _, _, _])).alloc _) hbel (by simp; omega)
         have hz : w.heap.size < w1.heap.size := HBLK.out.lt
         clear hbel hsz))
    | (go_at_call 15
       go_must (
         (refine (takeBig_int _ B 1 _ 1 rfl A l HR.out HL.out (by omega) (by omega) hc hm).mono ?_)
         rintro e w2 ⟨A', c', n, rfl, hl', hc', hr', rfl⟩
         have HR2 := Lib.hid hr'
         have hl2 : (l.drop 1).length ≤ c' := hl'
         have hkd : 1 + 12 ≤ (l.drop 1).length := by rw [List.length_drop]; omega
         have HKD := Lib.hid hkd
         have HLD := Lib.hid hl2
         rw [HK.out]
         clear hr' hl' hl2 hkd))
    | (go_at_call 23
       go_must (
         (have ht := (takeExt_int (w1.drewN n) B 12 c' _ rfl A' (l.drop 1) (HR2.out.drewN n) (by have := HBEL.out.size; exact Nat.le_trans hB this) (by omega) HKD.out HL0.out HLD.out (by omega)))
         rw [List.length_drop] at ht
         refine ht.mono ?_
         rintro e w3 ⟨A2, c2, rfl, hl3, hc3, hr3, hbel3⟩
         have hblk : Blk w3 w.heap.size 29 _ := Blk.below (HBLK.out.drewN n) hbel3 hz
         obtain ⟨q0, q1, q2, q3, q4⟩ := blk_cells5 hblk
         have f0 := hblk.frozen 0
         have f1 := hblk.frozen 1
         have f2 := hblk.frozen 2
         have f3 := hblk.frozen 3
         have f4 := hblk.frozen 4
         have HBLK3 := Lib.hid hblk
         have HBEL3 : Hid (Below w.heap.size w w3) := (below_drewN HBEL.out n).trans (hbel3.mono (by have := HBEL.out.size; exact this))
         have HR3 := Lib.hid hr3
         have HL3 := Lib.hid hl3
         obtain ⟨L3, hL3⟩ : ∃ L3, L3 = ((l.drop 1).drop (1 + 12)).length := ⟨_, rfl⟩
         obtain ⟨S3, hS3⟩ : ∃ S3, S3 = strOfNums (((l.drop 1).drop 1).take 12) := ⟨_, rfl⟩
         rw [← hL3, ← hS3]
         have HLL := Lib.hid hL3
         have HSS := Lib.hid hS3
         clear hL3 hS3
         clear hblk hbel3 hr3 hl3)))
  refine bodyPost_ret (results_cell2 rfl _ rfl (blk_set5 HBLK3.out _ _ _ _ _) Tryd.underlying29 rfl (by kernel_rfl)) rfl ?_
  exact ⟨A2, c2, by rw [← HLL.out, ← HSS.out]; rfl, HL3.out, hc3, reads_set5 HR3.out _ hB _ _ _ _ _, below_set5 HBEL3.out _ (Nat.le_refl _) _ _ _ _ _⟩

end Go.Proofs.YtgjkbldgpfaemaaDoor
