/- spec.takeText: the bytes of a text, or of bytes. -/
import Derived.Test.YtohainhkplombaaDoorKi
import Derived.Laws.BytesArg
import Derived.RegionTactic
import Derived.BigRegion
import Derived.ChangeAlike
import Derived.StillTailTactics
namespace Go.Proofs.YtohainhkplombaaDoor
open Go.RowKit
set_option linter.unusedVariables false

set_option maxHeartbeats 2000000 in
set_option maxRecDepth 100000 in
theorem takeText_yes (w : World) (B k c : Nat) (kind : Int) (A : Option Addr) (l : List Int) (h : Reads w B 1 A l.length (bs l)) (hB : B ≤ w.heap.size) (hkl : k ≤ l.length) (hc : l.length ≤ c) (hm : c ≤ maxLen) :
    Calls Tryd.prog 20 #[.int .i64 kind, .int .u64 k, .slice A l.length c] w (Coded w B (pk kind 0 (strOfNums (l.take k)) 0) (l.drop k)) := by
  have hm' : c ≤ 9223372036854775807 := by unfold maxLen at hm; omega
  have hlt : (l.take k).length = k := by rw [List.length_take]; omega
  have R1 : Reads w B 1 A k (bs (l.take k)) := by
    have := h.take1 (k := k) hkl
    rwa [bs_take] at this
  have hcv : ∀ o n c, (convert 24 9 (.slice A k c)).run Tryd.prog ((w.alloc o).drewN n) = .ok (.string (strOfNums (l.take k))) ((w.alloc o).drewN n) := fun o n c => conv_reads ((R1.alloc hB o).drewN n) _ _ _ Tryd.underlying24 Tryd.underlying5 Tryd.underlying9
  have hcv1 : ∀ o c, (convert 24 9 (.slice A k c)).run Tryd.prog ((w.alloc o).drew) = .ok (.string (strOfNums (l.take k))) ((w.alloc o).drew) := fun o c => conv_reads ((R1.alloc hB o).drewN 1) _ _ _ Tryd.underlying24 Tryd.underlying5 Tryd.underlying9
  have hR : ∀ A', (A' = if c = k then A else A.map (·.add k)) → Reads w B 1 A' (l.drop k).length (bs (l.drop k)) := fun A' hA' => reads_cut h hkl hc hA'
  have HR := Lib.hid hR
  have hd : decide ((l.length : Int) < (k : Int)) = false := by simp; omega
  have hd2 : decide (l.length < k) = false := by simp; omega
  clear hR R1 h hlt
  by_cases hck : c = k
  · have hl0 : (l.drop k).length = 0 := by rw [List.length_drop]; omega
    have HL0 := Lib.hid hl0
    clear hl0
    subst hck
    go_enter Tryd.func20, Tryd.ntmps20
    go_wp2
    go_region
    go_wp2
    refine bodyPost_ret (results_cell2 rfl _ rfl ((Blk.new w 31 [_, _, _, _, _]).drewN 1) Tryd.underlying31 rfl (by kernel_rfl)) rfl ?_
    exact ⟨_, _, by rw [HL0.out]; rfl, by rw [HL0.out]; omega, by simp only [maxLen]; omega, ((HR.out _ (by simp)).alloc hB _).drewN 1, below_drewN ((Below.refl _ w).alloc (Nat.le_refl _) _) 1⟩
  · go_enter Tryd.func20, Tryd.ntmps20
    go_wp2
    go_region
    go_wp2
    refine bodyPost_ret (results_cell2 rfl _ rfl ((Blk.new w 31 [_, _, _, _, _]).drewN 1) Tryd.underlying31 rfl (by kernel_rfl)) rfl ?_
    exact ⟨_, _, by rw [List.length_drop]; rfl, by rw [List.length_drop]; omega, by omega, ((HR.out _ (by rw [if_neg hck])).alloc hB _).drewN 1, below_drewN ((Below.refl _ w).alloc (Nat.le_refl _) _) 1⟩
/-- PRINTED by wip/genq.py. takeText, the number given as an Int. -/
theorem takeText_int (w : World) (B k c : Nat) (kind z : Int) (hz : z = (k : Int)) (A : Option Addr) (l : List Int) (h : Reads w B 1 A l.length (bs l)) (hB : B ≤ w.heap.size) (hkl : k ≤ l.length) (hc : l.length ≤ c) (hm : c ≤ maxLen) :
    Calls Tryd.prog 20 #[.int .i64 kind, .int .u64 z, .slice A l.length c] w (Coded w B (.agg #[.int .i64 kind, .int .u64 0, .string (strOfNums (l.take k)), .int .i64 0, .slice none 0 0]) (l.drop k)) := by
  subst hz
  exact takeText_yes w B k c kind A l h hB hkl hc hm

set_option maxHeartbeats 4000000 in
set_option maxRecDepth 100000 in
theorem coded196 (w : World) (B c k : Nat) (A : Option Addr) (l : List Int) (h : Reads w B 1 A l.length (bs l)) (hB : B ≤ w.heap.size) (hl : IsB l) (hkl : 1 ≤ l.length) (hc : l.length ≤ c) (hm : c ≤ maxLen) (hk : valBE (l.take 1) = (k : Int)) (hkk : 1 + k ≤ l.length) :
    Calls Tryd.prog 21 #[.int .i64 196, .slice A l.length c, .int .i64 2] w (Coded w B (pk 7 0 (strOfNums ((l.drop 1).take k)) 0) ((l.drop 1).drop k)) := by
  have H := Lib.hid h
  have HL := Lib.hid hl
  have HK := Lib.hid hk
  clear h hl hk
  go_enter Tryd.func21, Tryd.ntmps21
  go_wp2_with (first
    | ((with_reducible refine gate_makeMap rfl ?_)
       go_must (
         (refine wpList_makeMap_i (w0 := _) rfl 68 rfl (Below.refl _ _) (Nat.le_refl _) ?_)
         intro w1 mb HM))
    | ((with_reducible refine gate_insert rfl ?_)
       go_must (
         (have HM0 := HM)
         clear HM
         refine wpList_insert_i rfl _ _ _ 68 rfl Tryd.underlying68 _ _ rfl rfl rfl HM0 (by simp only [List.length_cons, List.length_nil]; omega) (by omega) (by omega) (by omega) (by omega) ?_
         intro w1 HM
         clear HM0))
    | ((with_reducible refine gate_lookup rfl ?_)
       go_must (
         (have HM0 := HM)
         clear HM
         refine wpList_lookup_i rfl _ _ 68 rfl Tryd.underlying68 _ rfl rfl HM0 (by omega) (by omega) 1 rfl ?_
         obtain ⟨-, hbel, -, hsz⟩ := HM0
         have HR : Hid (Reads w1 B 1 A l.length (bs l)) := Reads.below ((H.out.alloc hB _).alloc (by simp; omega) _) (hbel.mono (by simp; omega))
         have HBEL : Hid (Below w.heap.size w w1) := (((Below.refl _ w).alloc (Nat.le_refl _) _).alloc (by simp) _).trans (hbel.mono (by simp; omega))
         have HBLK : Hid (Blk w1 w.heap.size 31 _) := Blk.below (((Blk.new w _ [_, _, _, _, _])).alloc _) hbel (by simp; omega)
         have hz : w.heap.size < w1.heap.size := HBLK.out.lt
         clear hbel hsz))
    | (go_at_call 28
       go_must (
         (refine (takeBig_int _ B 1 _ 1 rfl A l HR.out HL.out (by omega) hkl hc hm).mono ?_)
         rintro e w2 ⟨A', c', n, rfl, hl', hc', hr', rfl⟩
         have HR2 := Lib.hid hr'
         have hl2 : (l.drop 1).length ≤ c' := hl'
         have hkd : k ≤ (l.drop 1).length := by rw [List.length_drop]; omega
         have HKD := Lib.hid hkd
         have HLD := Lib.hid hl2
         rw [HK.out]
         clear hr' hl' hl2 hkd))
    | (go_at_call 20
       go_must (
         (have ht := (takeText_int (w1.drewN n) B k c' 7 _ rfl A' (l.drop 1) (HR2.out.drewN n) (by have := HBEL.out.size; exact Nat.le_trans hB this) HKD.out HLD.out (by omega)))
         rw [List.length_drop] at ht
         refine ht.mono ?_
         rintro e w3 ⟨A2, c2, rfl, hl3, hc3, hr3, hbel3⟩
         have hblk : Blk w3 w.heap.size 31 _ := Blk.below (HBLK.out.drewN n) hbel3 hz
         obtain ⟨q0, q1, q2, q3, q4⟩ := blk_cells5 hblk
         have f0 := hblk.frozen 0
         have f1 := hblk.frozen 1
         have f2 := hblk.frozen 2
         have f3 := hblk.frozen 3
         have f4 := hblk.frozen 4
         have HBLK3 := Lib.hid hblk
         have HBEL3 : Hid (Below w.heap.size w w3) := (below_drewN HBEL.out n).trans (hbel3.mono (by have := HBEL.out.size; exact this))
         have HR3 := Lib.hid hr3
         have HL3 := Lib.hid hl3
         obtain ⟨L3, hL3⟩ : ∃ L3, L3 = ((l.drop 1).drop k).length := ⟨_, rfl⟩
         obtain ⟨S3, hS3⟩ : ∃ S3, S3 = strOfNums ((l.drop 1).take k) := ⟨_, rfl⟩
         rw [← hL3, ← hS3]
         have HLL := Lib.hid hL3
         have HSS := Lib.hid hS3
         clear hL3 hS3
         clear hblk hbel3 hr3 hl3)))
  refine bodyPost_ret (results_cell2 rfl _ rfl (blk_set5 HBLK3.out _ _ _ _ _) Tryd.underlying31 rfl (by kernel_rfl)) rfl ?_
  exact ⟨A2, c2, by rw [← HLL.out, ← HSS.out]; rfl, HL3.out, hc3, reads_set5 HR3.out _ hB _ _ _ _ _, below_set5 HBEL3.out _ (Nat.le_refl _) _ _ _ _ _⟩

set_option maxHeartbeats 4000000 in
set_option maxRecDepth 100000 in
theorem coded197 (w : World) (B c k : Nat) (A : Option Addr) (l : List Int) (h : Reads w B 1 A l.length (bs l)) (hB : B ≤ w.heap.size) (hl : IsB l) (hkl : 2 ≤ l.length) (hc : l.length ≤ c) (hm : c ≤ maxLen) (hk : valBE (l.take 2) = (k : Int)) (hkk : 2 + k ≤ l.length) :
    Calls Tryd.prog 21 #[.int .i64 197, .slice A l.length c, .int .i64 2] w (Coded w B (pk 7 0 (strOfNums ((l.drop 2).take k)) 0) ((l.drop 2).drop k)) := by
  have H := Lib.hid h
  have HL := Lib.hid hl
  have HK := Lib.hid hk
  clear h hl hk
  go_enter Tryd.func21, Tryd.ntmps21
  go_wp2_with (first
    | ((with_reducible refine gate_makeMap rfl ?_)
       go_must (
         (refine wpList_makeMap_i (w0 := _) rfl 68 rfl (Below.refl _ _) (Nat.le_refl _) ?_)
         intro w1 mb HM))
    | ((with_reducible refine gate_insert rfl ?_)
       go_must (
         (have HM0 := HM)
         clear HM
         refine wpList_insert_i rfl _ _ _ 68 rfl Tryd.underlying68 _ _ rfl rfl rfl HM0 (by simp only [List.length_cons, List.length_nil]; omega) (by omega) (by omega) (by omega) (by omega) ?_
         intro w1 HM
         clear HM0))
    | ((with_reducible refine gate_lookup rfl ?_)
       go_must (
         (have HM0 := HM)
         clear HM
         refine wpList_lookup_i rfl _ _ 68 rfl Tryd.underlying68 _ rfl rfl HM0 (by omega) (by omega) 2 rfl ?_
         obtain ⟨-, hbel, -, hsz⟩ := HM0
         have HR : Hid (Reads w1 B 1 A l.length (bs l)) := Reads.below ((H.out.alloc hB _).alloc (by simp; omega) _) (hbel.mono (by simp; omega))
         have HBEL : Hid (Below w.heap.size w w1) := (((Below.refl _ w).alloc (Nat.le_refl _) _).alloc (by simp) _).trans (hbel.mono (by simp; omega))
         have HBLK : Hid (Blk w1 w.heap.size 31 _) := Blk.below (((Blk.new w _ [_, _, _, _, _])).alloc _) hbel (by simp; omega)
         have hz : w.heap.size < w1.heap.size := HBLK.out.lt
         clear hbel hsz))
    | (go_at_call 28
       go_must (
         (refine (takeBig_int _ B 2 _ 2 rfl A l HR.out HL.out (by omega) hkl hc hm).mono ?_)
         rintro e w2 ⟨A', c', n, rfl, hl', hc', hr', rfl⟩
         have HR2 := Lib.hid hr'
         have hl2 : (l.drop 2).length ≤ c' := hl'
         have hkd : k ≤ (l.drop 2).length := by rw [List.length_drop]; omega
         have HKD := Lib.hid hkd
         have HLD := Lib.hid hl2
         rw [HK.out]
         clear hr' hl' hl2 hkd))
    | (go_at_call 20
       go_must (
         (have ht := (takeText_int (w1.drewN n) B k c' 7 _ rfl A' (l.drop 2) (HR2.out.drewN n) (by have := HBEL.out.size; exact Nat.le_trans hB this) HKD.out HLD.out (by omega)))
         rw [List.length_drop] at ht
         refine ht.mono ?_
         rintro e w3 ⟨A2, c2, rfl, hl3, hc3, hr3, hbel3⟩
         have hblk : Blk w3 w.heap.size 31 _ := Blk.below (HBLK.out.drewN n) hbel3 hz
         obtain ⟨q0, q1, q2, q3, q4⟩ := blk_cells5 hblk
         have f0 := hblk.frozen 0
         have f1 := hblk.frozen 1
         have f2 := hblk.frozen 2
         have f3 := hblk.frozen 3
         have f4 := hblk.frozen 4
         have HBLK3 := Lib.hid hblk
         have HBEL3 : Hid (Below w.heap.size w w3) := (below_drewN HBEL.out n).trans (hbel3.mono (by have := HBEL.out.size; exact this))
         have HR3 := Lib.hid hr3
         have HL3 := Lib.hid hl3
         obtain ⟨L3, hL3⟩ : ∃ L3, L3 = ((l.drop 2).drop k).length := ⟨_, rfl⟩
         obtain ⟨S3, hS3⟩ : ∃ S3, S3 = strOfNums ((l.drop 2).take k) := ⟨_, rfl⟩
         rw [← hL3, ← hS3]
         have HLL := Lib.hid hL3
         have HSS := Lib.hid hS3
         clear hL3 hS3
         clear hblk hbel3 hr3 hl3)))
  refine bodyPost_ret (results_cell2 rfl _ rfl (blk_set5 HBLK3.out _ _ _ _ _) Tryd.underlying31 rfl (by kernel_rfl)) rfl ?_
  exact ⟨A2, c2, by rw [← HLL.out, ← HSS.out]; rfl, HL3.out, hc3, reads_set5 HR3.out _ hB _ _ _ _ _, below_set5 HBEL3.out _ (Nat.le_refl _) _ _ _ _ _⟩

set_option maxHeartbeats 4000000 in
set_option maxRecDepth 100000 in
theorem coded198 (w : World) (B c k : Nat) (A : Option Addr) (l : List Int) (h : Reads w B 1 A l.length (bs l)) (hB : B ≤ w.heap.size) (hl : IsB l) (hkl : 4 ≤ l.length) (hc : l.length ≤ c) (hm : c ≤ maxLen) (hk : valBE (l.take 4) = (k : Int)) (hkk : 4 + k ≤ l.length) :
    Calls Tryd.prog 21 #[.int .i64 198, .slice A l.length c, .int .i64 2] w (Coded w B (pk 7 0 (strOfNums ((l.drop 4).take k)) 0) ((l.drop 4).drop k)) := by
  have H := Lib.hid h
  have HL := Lib.hid hl
  have HK := Lib.hid hk
  clear h hl hk
  go_enter Tryd.func21, Tryd.ntmps21
  go_wp2_with (first
    | ((with_reducible refine gate_makeMap rfl ?_)
       go_must (
         (refine wpList_makeMap_i (w0 := _) rfl 68 rfl (Below.refl _ _) (Nat.le_refl _) ?_)
         intro w1 mb HM))
    | ((with_reducible refine gate_insert rfl ?_)
       go_must (
         (have HM0 := HM)
         clear HM
         refine wpList_insert_i rfl _ _ _ 68 rfl Tryd.underlying68 _ _ rfl rfl rfl HM0 (by simp only [List.length_cons, List.length_nil]; omega) (by omega) (by omega) (by omega) (by omega) ?_
         intro w1 HM
         clear HM0))
    | ((with_reducible refine gate_lookup rfl ?_)
       go_must (
         (have HM0 := HM)
         clear HM
         refine wpList_lookup_i rfl _ _ 68 rfl Tryd.underlying68 _ rfl rfl HM0 (by omega) (by omega) 4 rfl ?_
         obtain ⟨-, hbel, -, hsz⟩ := HM0
         have HR : Hid (Reads w1 B 1 A l.length (bs l)) := Reads.below ((H.out.alloc hB _).alloc (by simp; omega) _) (hbel.mono (by simp; omega))
         have HBEL : Hid (Below w.heap.size w w1) := (((Below.refl _ w).alloc (Nat.le_refl _) _).alloc (by simp) _).trans (hbel.mono (by simp; omega))
         have HBLK : Hid (Blk w1 w.heap.size 31 _) := Blk.below (((Blk.new w _ [_, _, _, _, _])).alloc _) hbel (by simp; omega)
         have hz : w.heap.size < w1.heap.size := HBLK.out.lt
         clear hbel hsz))
    | (go_at_call 28
       go_must (
         (refine (takeBig_int _ B 4 _ 4 rfl A l HR.out HL.out (by omega) hkl hc hm).mono ?_)
         rintro e w2 ⟨A', c', n, rfl, hl', hc', hr', rfl⟩
         have HR2 := Lib.hid hr'
         have hl2 : (l.drop 4).length ≤ c' := hl'
         have hkd : k ≤ (l.drop 4).length := by rw [List.length_drop]; omega
         have HKD := Lib.hid hkd
         have HLD := Lib.hid hl2
         rw [HK.out]
         clear hr' hl' hl2 hkd))
    | (go_at_call 20
       go_must (
         (have ht := (takeText_int (w1.drewN n) B k c' 7 _ rfl A' (l.drop 4) (HR2.out.drewN n) (by have := HBEL.out.size; exact Nat.le_trans hB this) HKD.out HLD.out (by omega)))
         rw [List.length_drop] at ht
         refine ht.mono ?_
         rintro e w3 ⟨A2, c2, rfl, hl3, hc3, hr3, hbel3⟩
         have hblk : Blk w3 w.heap.size 31 _ := Blk.below (HBLK.out.drewN n) hbel3 hz
         obtain ⟨q0, q1, q2, q3, q4⟩ := blk_cells5 hblk
         have f0 := hblk.frozen 0
         have f1 := hblk.frozen 1
         have f2 := hblk.frozen 2
         have f3 := hblk.frozen 3
         have f4 := hblk.frozen 4
         have HBLK3 := Lib.hid hblk
         have HBEL3 : Hid (Below w.heap.size w w3) := (below_drewN HBEL.out n).trans (hbel3.mono (by have := HBEL.out.size; exact this))
         have HR3 := Lib.hid hr3
         have HL3 := Lib.hid hl3
         obtain ⟨L3, hL3⟩ : ∃ L3, L3 = ((l.drop 4).drop k).length := ⟨_, rfl⟩
         obtain ⟨S3, hS3⟩ : ∃ S3, S3 = strOfNums ((l.drop 4).take k) := ⟨_, rfl⟩
         rw [← hL3, ← hS3]
         have HLL := Lib.hid hL3
         have HSS := Lib.hid hS3
         clear hL3 hS3
         clear hblk hbel3 hr3 hl3)))
  refine bodyPost_ret (results_cell2 rfl _ rfl (blk_set5 HBLK3.out _ _ _ _ _) Tryd.underlying31 rfl (by kernel_rfl)) rfl ?_
  exact ⟨A2, c2, by rw [← HLL.out, ← HSS.out]; rfl, HL3.out, hc3, reads_set5 HR3.out _ hB _ _ _ _ _, below_set5 HBEL3.out _ (Nat.le_refl _) _ _ _ _ _⟩

end Go.Proofs.YtohainhkplombaaDoor
