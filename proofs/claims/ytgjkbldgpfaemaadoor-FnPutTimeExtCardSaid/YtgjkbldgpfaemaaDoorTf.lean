/- spec.Moment: the seconds and the nanoseconds of a timestamp extension, at its three lengths. PRINTED by wip/gentf.py. -/
import Derived.Test.YtgjkbldgpfaemaaDoorKi
import Derived.Lib.ConvBytes
import Derived.Laws.AppendOwn
namespace Go.Proofs.YtgjkbldgpfaemaaDoor
open Go.RowKit
set_option linter.unusedVariables false

/-- '[]byte(s)' of a string whose bytes are told: a new block that reads them. -/
theorem conv_str (l : List Int) (hl : IsB l) (hn : l.length ≤ 1099511627776) : ∃ (cap : World → Nat) (WB : World → World), (∀ w, (convert 9 22 (.string (strOfNums l))).run Tryd.prog w = .ok (.slice (some ⟨w.heap.size, 0, none⟩) l.length (cap w)) (WB w)) ∧
    ∀ w, Reads (WB w) (w.heap.size + 1) 1 (some ⟨w.heap.size, 0, none⟩) l.length (bs l) ∧ l.length ≤ cap w ∧ cap w ≤ maxLen ∧ Below w.heap.size w (WB w) ∧ (WB w).heap.size = w.heap.size + 1 := by
  have hs := strOfNums_size l
  refine ⟨fun w => grownCap w l.length 0 5, fun w => Lib.bytesWorld w 5 (strOfNums l), fun w => ?_, fun w => ⟨?_, grownCap_ge _ _ _ _, grownCap_le_maxLen _ _ _ _ (by simp only [maxLen]; omega), ?_, Lib.bytesWorld_size _ _ _⟩⟩
  · have e := Lib.run_convert_string_bytes (P := Tryd.prog) w 9 22 5 (strOfNums l) Tryd.underlying9 Tryd.underlying22 Tryd.underlying5
    rw [hs] at e
    exact e
  · refine ⟨by rw [bs_length]; omega, fun _ => ⟨_, rfl, by simp, fun j u hu => ?_⟩⟩
    have hj : j < l.length := by
      have := (List.getElem?_eq_some_iff.1 hu).1
      rwa [bs_length] at this
    rw [add_lit, Nat.zero_add, Lib.bytesWorld_cell w 5 (strOfNums l) j (by rw [hs]; exact hj)]
    have hb := hl _ (getD_mem l j hj)
    have hu' : u = .int .u8 (l.getD j 0) := by
      have : (bs l)[j]? = some (.int .u8 (l.getD j 0)) := by simp [bs, List.getElem?_eq_getElem hj, List.getD_eq_getElem?_getD]
      rw [this] at hu
      exact (Option.some.inj hu).symm
    rw [hu', strOfNums_data, List.getD_eq_getElem?_getD, List.getElem?_map, List.getElem?_eq_getElem hj]
    rw [List.getD_eq_getElem?_getD, List.getElem?_eq_getElem hj] at hb ⊢
    simp only [Option.map_some, Option.getD_some] at hb ⊢
    rw [UInt8.toNat_ofNat']
    congr 2
    omega
  · exact ⟨rfl, rfl, rfl, by rw [Lib.bytesWorld_size]; omega, fun k hk => Lib.bytesWorld_at_old w _ _ k hk⟩

theorem and34 (u : Int) (h0 : 0 ≤ u) (h1 : u < 18446744073709551616) : bits .and .u64 u 17179869183 = u % 17179869184 := by
  rw [u64_and _ _ h0 h1 (by omega) (by omega), show (17179869183 : Int).toNat = 2 ^ 34 - 1 from rfl, Nat.and_two_pow_sub_one_eq_mod]
  omega

set_option maxHeartbeats 2000000 in
set_option maxRecDepth 100000 in
theorem Moment_4 (w : World) (l : List Int) (hl : IsB l) (hn : l.length = 4) :
    Calls Tryd.prog 8 #[.string (strOfNums l)] w fun e w' => e = .returned (.tuple #[.int .i64 (valBE l), .int .u32 0, .bool true]) ∧ Below w.heap.size w w' := by
  obtain ⟨cap, WB, hcv, hp⟩ := conv_str l hl (by omega)
  have hs := strOfNums_size l
  rw [hn] at hs
  obtain ⟨S, hS⟩ : ∃ S, S = strOfNums l := ⟨_, rfl⟩
  rw [← hS] at hcv hs ⊢
  clear hS
  have ht : l.take 4 = l := List.take_of_length_le (by omega)
  have hr := valBE_range l hl
  rw [hn] at hr
  obtain ⟨hr0, hr1⟩ := hr
  have hr1' : valBE l < 4294967296 := by simpa using hr1
  clear hr1
  have HP := Lib.hid hp
  have HL := Lib.hid hl
  have HT := Lib.hid ht
  obtain ⟨V, hV⟩ : ∃ V, valBE l = V := ⟨_, rfl⟩
  rw [hV] at hr0 hr1' ⊢
  have HV := Lib.hid hV
  clear hp hl ht hV
  go_enter Tryd.func8, Tryd.ntmps8
  go_wp2_with (
    (go_at_call 15)
    go_must (
      (have htb := takeBig_int (WB w) _ 4 _ 4 rfl _ l (HP.out w).1 HL.out (by omega) (by omega) (HP.out w).2.1 (HP.out w).2.2.1)
      rw [hn] at htb
      refine htb.mono ?_
      rintro e w2 ⟨A', c', n, rfl, hl', hc', hr', rfl⟩
      rw [HT.out, HV.out]
      clear hl' hc' hr' htb))
  go_ret3
  exact ⟨rfl, below_drewN (HP.out w).2.2.2.1 n⟩

set_option maxHeartbeats 2000000 in
set_option maxRecDepth 100000 in
theorem Moment_8 (w : World) (l : List Int) (hl : IsB l) (hn : l.length = 8) (hu : valBE l / 17179869184 < 1000000000) :
    Calls Tryd.prog 8 #[.string (strOfNums l)] w fun e w' => e = .returned (.tuple #[.int .i64 (valBE l % 17179869184), .int .u32 (valBE l / 17179869184), .bool true]) ∧ Below w.heap.size w w' := by
  obtain ⟨cap, WB, hcv, hp⟩ := conv_str l hl (by omega)
  have hs := strOfNums_size l
  rw [hn] at hs
  obtain ⟨S, hS⟩ : ∃ S, S = strOfNums l := ⟨_, rfl⟩
  rw [← hS] at hcv hs ⊢
  clear hS
  have ht : l.take 8 = l := List.take_of_length_le (by omega)
  have hr := valBE_range l hl
  rw [hn] at hr
  obtain ⟨hr0, hr1⟩ := hr
  have hr1' : valBE l < 18446744073709551616 := by simpa using hr1
  clear hr1
  have hand := and34 (valBE l) hr0 hr1'
  have hd : decide (valBE l / 17179869184 < 1000000000) = true := decide_eq_true hu
  have hq0 : 0 ≤ valBE l / 17179869184 := by omega
  have hwr : IntKind.u32.wrap (valBE l / 17179869184) = valBE l / 17179869184 := by rw [IntKind.wrap_u32]; omega
  have hwr2 : IntKind.i64.wrap (valBE l % 17179869184) = valBE l % 17179869184 := by rw [IntKind.wrap_i64]; omega
  have HP := Lib.hid hp
  have HL := Lib.hid hl
  have HT := Lib.hid ht
  obtain ⟨V, hV⟩ : ∃ V, valBE l = V := ⟨_, rfl⟩
  rw [hV] at hr0 hr1' hand hd hq0 hwr hwr2 hu ⊢
  have HV := Lib.hid hV
  clear hp hl ht hV
  go_enter Tryd.func8, Tryd.ntmps8
  go_wp2_with (
    (go_at_call 15)
    go_must (
      (have htb := takeBig_int (WB w) _ 8 _ 8 rfl _ l (HP.out w).1 HL.out (by omega) (by omega) (HP.out w).2.1 (HP.out w).2.2.1)
      rw [hn] at htb
      refine htb.mono ?_
      rintro e w2 ⟨A', c', n, rfl, hl', hc', hr', rfl⟩
      rw [HT.out, HV.out]
      clear hl' hc' hr' htb))
  go_ret3
  exact ⟨rfl, below_drewN (HP.out w).2.2.2.1 n⟩

set_option maxHeartbeats 2000000 in
set_option maxRecDepth 100000 in
theorem Moment_12 (w : World) (l : List Int) (hl : IsB l) (hn : l.length = 12) (hu : valBE (l.take 4) < 1000000000) :
    Calls Tryd.prog 8 #[.string (strOfNums l)] w fun e w' => e = .returned (.tuple #[.int .i64 (wrap64 (valBE (l.drop 4))), .int .u32 (valBE (l.take 4)), .bool true]) ∧ Below w.heap.size w w' := by
  obtain ⟨cap, WB, hcv, hp⟩ := conv_str l hl (by omega)
  have hs := strOfNums_size l
  rw [hn] at hs
  obtain ⟨S, hS⟩ : ∃ S, S = strOfNums l := ⟨_, rfl⟩
  rw [← hS] at hcv hs ⊢
  clear hS
  have hlt : IsB (l.take 4) := fun x hx => hl x (List.mem_of_mem_take hx)
  have hld : IsB (l.drop 4) := fun x hx => hl x (List.mem_of_mem_drop hx)
  have hdn : (l.drop 4).length = 8 := by rw [List.length_drop, hn]
  have ht : (l.drop 4).take 8 = l.drop 4 := List.take_of_length_le (by omega)
  have hr0 := (valBE_range _ hlt).1
  have hr1' : valBE (l.take 4) < 4294967296 := by omega
  obtain ⟨hs0, hs1⟩ := valBE_range _ hld
  rw [hdn] at hs1
  have hs1' : valBE (l.drop 4) < 18446744073709551616 := by simpa using hs1
  clear hs1
  have hd : decide (valBE (l.take 4) < 1000000000) = true := decide_eq_true hu
  have hwr : IntKind.u32.wrap (valBE (l.take 4)) = valBE (l.take 4) := by rw [IntKind.wrap_u32]; omega
  obtain ⟨U, hU⟩ : ∃ U, valBE (l.take 4) = U := ⟨_, rfl⟩
  obtain ⟨V, hV⟩ : ∃ V, valBE (l.drop 4) = V := ⟨_, rfl⟩
  rw [hU] at hr0 hr1' hd hwr hu ⊢
  rw [hV] at hs0 hs1' ⊢
  have HU := Lib.hid hU
  have HV := Lib.hid hV
  have HP := Lib.hid hp
  have HL := Lib.hid hl
  have HLD := Lib.hid hld
  have HT := Lib.hid ht
  have HDN := Lib.hid hdn
  clear hp hl ht hU hV hlt hld hdn
  go_enter Tryd.func8, Tryd.ntmps8
  go_wp2_with (
    (go_at_call 15)
    go_must (first
      | ((have htb := takeBig_int ((WB ((WB w).drewN n)).drewN n2) _ 8 _ 8 rfl A2 (l.drop 4) HR2.out HLD.out (by omega) (by rw [HDN.out]; omega) HC2.out (by omega))
         rw [HDN.out] at htb
         refine htb.mono ?_
         rintro e w3 ⟨A3, c3, n3, rfl, hl3, hc3, hr3, rfl⟩
         rw [HT.out, HV.out]
         clear hl3 hc3 hr3 htb)
      | ((have hp2 := HP.out ((WB w).drewN n))
         have htb := takeBig_int (WB ((WB w).drewN n)) _ 4 _ 4 rfl _ l hp2.1 HL.out (by omega) (by omega) hp2.2.1 hp2.2.2.1
         rw [hn] at htb
         refine htb.mono ?_
         rintro e w2 ⟨A2, c2, n2, rfl, hl2, hc2, hr2, rfl⟩
         have HR2 := Lib.hid (hr2.drewN n2)
         have HC2 := Lib.hid hl2
         have hm2 : c2 ≤ maxLen := Nat.le_trans hc2 hp2.2.2.1
         have hm2' : c2 ≤ 9223372036854775807 := by simp only [maxLen] at hm2; omega
         rw [HU.out, HDN.out]
         have HBL := Lib.hid hp2.2.2.2.1
         clear hl2 hc2 hr2 htb hp2)
      | ((have htb := takeBig_int (WB w) _ 8 _ 8 rfl _ l (HP.out w).1 HL.out (by omega) (by omega) (HP.out w).2.1 (HP.out w).2.2.1)
         rw [hn] at htb
         refine htb.mono ?_
         rintro e w2 ⟨A', c', n, rfl, hl', hc', hr', rfl⟩
         clear hl' hc' hr' htb)))
  go_ret3
  exact ⟨rfl, below_drewN ((below_drewN (HP.out w).2.2.2.1 n).trans (HBL.out.mono (below_drewN (HP.out w).2.2.2.1 n).size)) _⟩

end Go.Proofs.YtgjkbldgpfaemaaDoor
