/- What a set's UnmarshalMsg reads: the head of an array, its values in whatever form. PRINTED by wip/genso.py. -/
import Derived.Test.YtfhaddnacdjpoaaDoorEm
import Derived.Test.YtfhaddnacdjpoaaDoorPu
import Derived.Test.YtfhaddnacdjpoaaDoorUa
import Derived.Test.YtfhaddnacdjpoaaDoorSn
import Derived.Laws.BytesArg
namespace Go.Proofs.YtfhaddnacdjpoaaDoor
open Go.RowKit
set_option linter.unusedVariables false

theorem conv_reads {P : Program} {w : World} {B n c : Nat} {A : Option Addr} {l : List Int} (h : Reads w B 1 A n (bs l)) (src e dst : TypeId) (hs : P.underlying src = some (.slice e)) (he : P.underlying e = some (.int .u8)) (hd : P.underlying dst = some .string) :
    (convert src dst (.slice A n c)).run P w = .ok (.string (strOfNums l)) w := by
  have hn := h.bytes
  rcases A with _ | ad
  · have h0 : n = 0 := by
      rcases Nat.eq_zero_or_pos n with h0 | h0
      · exact h0
      · obtain ⟨_, h1, _⟩ := h.2 h0
        cases h1
    have : l = [] := List.eq_nil_of_length_eq_zero (by omega)
    subst this
    exact run_convert_bytes_nil w src e hs he n c dst hd
  · have hl : (loadCells ad n).run P w = .ok (l.map (Value.int .u8)).toArray w := by
      have := run_loadCells_list (P := P) w ad (l.map (Value.int .u8)) (fun j v hj => by
        have hj0 : 0 < n := by
          rcases Nat.eq_zero_or_pos n with h0 | h0
          · have : l = [] := List.eq_nil_of_length_eq_zero (by omega)
            subst this
            simp at hj
          · exact h0
        obtain ⟨ad', h1, _, h2⟩ := h.2 hj0
        injection h1 with h1
        subst h1
        exact h2 j v hj)
      simpa [hn] using this
    rw [run_convert_bytes_string w src dst e _ n c hs he hd, run_bytesToString w ad n c l hl, foldl_push_bytes]
    simp [strOfNums, ByteArray.empty, ByteArray.emptyWithCapacity]
    rfl

set_option maxHeartbeats 2000000 in
set_option maxRecDepth 100000 in
theorem left_calls (W : World) (A A2 : Option Addr) (c c2 : Nat) (l : List Int) (h : Reads W W.heap.size 1 A l.length (bs l)) (h2 : Reads W W.heap.size 1 A2 l.length (bs l)) : Calls Tryd.prog 10 #[.slice A l.length c, .slice A2 l.length c2] W fun e w' => e = .returned (.bool true) ∧ Below W.heap.size W w' := by
  have hcv : ∀ w c, w.heap = W.heap → (convert 24 9 (.slice A l.length c)).run Tryd.prog w = .ok (.string (strOfNums l)) w := fun w c hw => conv_reads (h.keep fun p _ => by simp [World.cell?, hw]) _ _ _ Tryd.underlying24 Tryd.underlying5 Tryd.underlying9
  have hc1 := hcv W c rfl
  have hc2 := fun n => hcv (W.drewN n) c rfl
  have hk : (convert 24 9 (.slice A2 l.length c2)).run Tryd.prog W = .ok (.string (strOfNums l)) W := conv_reads h2 _ _ _ Tryd.underlying24 Tryd.underlying5 Tryd.underlying9
  clear hcv
  go_enter Tryd.func10, Tryd.ntmps10
  go_wp2
  go_ret
  exact ⟨by simp, Below.refl _ _⟩
theorem be1Q (n : Int) : be n 1 = [n % 256] := by simp [be, byt]
theorem be2Q (n : Int) : be n 2 = [n / 256 % 256, n % 256] := by simp [be, byt]
theorem be4Q (n : Int) : be n 4 = [n / 16777216 % 256, n / 65536 % 256, n / 256 % 256, n % 256] := by simp [be, byt]
theorem be8Q (n : Int) : be n 8 = [n / 72057594037927936 % 256, n / 281474976710656 % 256, n / 1099511627776 % 256, n / 4294967296 % 256, n / 16777216 % 256, n / 65536 % 256, n / 256 % 256, n % 256] := by simp [be, byt]
theorem lenQ (e tot : List Int) (k : Nat) (he : e.length = k) : (e ++ tot).length = tot.length + k := by rw [List.length_append, he, Nat.add_comm]

theorem RI_in (W : World) (B c : Nat) (A : Option Addr) (n : Int) (enc : List Int) (hf : IntF n enc) (h1 : n ≤ 9223372036854775807) (tot : List Int) (h : Reads W B 1 A (enc ++ tot).length (bs (enc ++ tot))) (hmc : (enc ++ tot).length ≤ c) (hcm : c ≤ maxLen) (hB : B ≤ W.heap.size) :
    Calls Tryd.prog 48 #[.slice A (enc ++ tot).length c] W (RB .i64 n tot B W) := by
  have hl := intF_len hf
  obtain ⟨ad, rfl, _, _⟩ := h.2 (by rw [List.length_append]; omega)
  have e1 : (2 : Int) ^ (8 * 1) = 256 := by decide
  have e2 : (2 : Int) ^ (8 * 2) = 65536 := by decide
  have e4 : (2 : Int) ^ (8 * 4) = 4294967296 := by decide
  rcases hf with ⟨a, b, rfl⟩ | ⟨a, b, rfl⟩ | ⟨p, hp, hok, a, rfl⟩ | ⟨p, hp, a, b, rfl⟩
  · rw [lenQ _ tot 1 rfl] at h hmc ⊢; exact ReadInt64Bytes_fix W B c ad n tot h hmc hcm hB a b
  · rw [lenQ _ tot 1 rfl] at h hmc ⊢; exact ReadInt64Bytes_neg W B c ad n tot h hmc hcm hB a b
  · simp only [List.mem_cons, List.not_mem_nil, or_false] at hp
    rcases hp with rfl | rfl | rfl | rfl
    · simp only [okF, e1, Bool.or_eq_true, decide_eq_true_eq] at hok
      simp only [be1Q] at h hmc ⊢
      have e : n % 256 = n := by omega
      rw [e] at h hmc ⊢
      rw [lenQ _ tot 2 rfl] at h hmc ⊢; exact ReadInt64Bytes_u1 W B c ad n tot h hmc hcm hB a (by omega)
    · simp only [okF, e2, Bool.or_eq_true, decide_eq_true_eq] at hok
      simp only [be2Q] at h hmc ⊢
      rw [lenQ _ tot 3 rfl] at h hmc ⊢; exact ReadInt64Bytes_u2 W B c ad n tot h hmc hcm hB a (by omega)
    · simp only [okF, e4, Bool.or_eq_true, decide_eq_true_eq] at hok
      simp only [be4Q] at h hmc ⊢
      rw [lenQ _ tot 5 rfl] at h hmc ⊢; exact ReadInt64Bytes_u4 W B c ad n tot h hmc hcm hB a (by omega)
    · simp only [be8Q] at h hmc ⊢
      rw [lenQ _ tot 9 rfl] at h hmc ⊢; exact ReadInt64Bytes_u8 W B c ad n tot h hmc hcm hB a (by omega)
  · simp only [List.mem_cons, List.not_mem_nil, or_false] at hp
    rcases hp with rfl | rfl | rfl | rfl
    · simp only [Nat.reduceMul, Nat.reduceSub, Int.reducePow] at a b
      simp only [be1Q] at h hmc ⊢
      rw [lenQ _ tot 2 rfl] at h hmc ⊢; exact ReadInt64Bytes_i1 W B c ad n tot h hmc hcm hB (by omega) (by omega)
    · simp only [Nat.reduceMul, Nat.reduceSub, Int.reducePow] at a b
      simp only [be2Q] at h hmc ⊢
      rw [lenQ _ tot 3 rfl] at h hmc ⊢; exact ReadInt64Bytes_i2 W B c ad n tot h hmc hcm hB (by omega) (by omega)
    · simp only [Nat.reduceMul, Nat.reduceSub, Int.reducePow] at a b
      simp only [be4Q] at h hmc ⊢
      rw [lenQ _ tot 5 rfl] at h hmc ⊢; exact ReadInt64Bytes_i4 W B c ad n tot h hmc hcm hB (by omega) (by omega)
    · simp only [Nat.reduceMul, Nat.reduceSub, Int.reducePow] at a b
      simp only [be8Q] at h hmc ⊢
      rw [lenQ _ tot 9 rfl] at h hmc ⊢; exact ReadInt64Bytes_i8 W B c ad n tot h hmc hcm hB (by omega) (by omega)
theorem RU_in (W : World) (B c : Nat) (A : Option Addr) (n : Int) (enc : List Int) (hf : IntF n enc) (h0 : 0 ≤ n) (h1 : n < 18446744073709551616) (tot : List Int) (h : Reads W B 1 A (enc ++ tot).length (bs (enc ++ tot))) (hmc : (enc ++ tot).length ≤ c) (hcm : c ≤ maxLen) (hB : B ≤ W.heap.size) :
    Calls Tryd.prog 37 #[.slice A (enc ++ tot).length c] W (RB .u64 n tot B W) := by
  have hl := intF_len hf
  obtain ⟨ad, rfl, _, _⟩ := h.2 (by rw [List.length_append]; omega)
  have e1 : (2 : Int) ^ (8 * 1) = 256 := by decide
  have e2 : (2 : Int) ^ (8 * 2) = 65536 := by decide
  have e4 : (2 : Int) ^ (8 * 4) = 4294967296 := by decide
  rcases hf with ⟨a, b, rfl⟩ | ⟨a, b, rfl⟩ | ⟨p, hp, hok, a, rfl⟩ | ⟨p, hp, a, b, rfl⟩
  · rw [lenQ _ tot 1 rfl] at h hmc ⊢; exact ReadUint64Bytes_fix W B c ad n tot h hmc hcm hB a b
  · omega
  · simp only [List.mem_cons, List.not_mem_nil, or_false] at hp
    rcases hp with rfl | rfl | rfl | rfl
    · simp only [okF, e1, Bool.or_eq_true, decide_eq_true_eq] at hok
      simp only [be1Q] at h hmc ⊢
      have e : n % 256 = n := by omega
      rw [e] at h hmc ⊢
      rw [lenQ _ tot 2 rfl] at h hmc ⊢; exact ReadUint64Bytes_u1 W B c ad n tot h hmc hcm hB a (by omega)
    · simp only [okF, e2, Bool.or_eq_true, decide_eq_true_eq] at hok
      simp only [be2Q] at h hmc ⊢
      rw [lenQ _ tot 3 rfl] at h hmc ⊢; exact ReadUint64Bytes_u2 W B c ad n tot h hmc hcm hB a (by omega)
    · simp only [okF, e4, Bool.or_eq_true, decide_eq_true_eq] at hok
      simp only [be4Q] at h hmc ⊢
      rw [lenQ _ tot 5 rfl] at h hmc ⊢; exact ReadUint64Bytes_u4 W B c ad n tot h hmc hcm hB a (by omega)
    · simp only [be8Q] at h hmc ⊢
      rw [lenQ _ tot 9 rfl] at h hmc ⊢; exact ReadUint64Bytes_u8 W B c ad n tot h hmc hcm hB a (by omega)
  · simp only [List.mem_cons, List.not_mem_nil, or_false] at hp
    rcases hp with rfl | rfl | rfl | rfl
    · simp only [Nat.reduceMul, Nat.reduceSub, Int.reducePow] at a b
      simp only [be1Q] at h hmc ⊢
      have e : n % 256 = n := by omega
      rw [e] at h hmc ⊢
      rw [lenQ _ tot 2 rfl] at h hmc ⊢; exact ReadUint64Bytes_i1 W B c ad n tot h hmc hcm hB h0 (by omega)
    · simp only [Nat.reduceMul, Nat.reduceSub, Int.reducePow] at a b
      simp only [be2Q] at h hmc ⊢
      rw [lenQ _ tot 3 rfl] at h hmc ⊢; exact ReadUint64Bytes_i2 W B c ad n tot h hmc hcm hB h0 (by omega)
    · simp only [Nat.reduceMul, Nat.reduceSub, Int.reducePow] at a b
      simp only [be4Q] at h hmc ⊢
      rw [lenQ _ tot 5 rfl] at h hmc ⊢; exact ReadUint64Bytes_i4 W B c ad n tot h hmc hcm hB h0 (by omega)
    · simp only [Nat.reduceMul, Nat.reduceSub, Int.reducePow] at a b
      simp only [be8Q] at h hmc ⊢
      rw [lenQ _ tot 9 rfl] at h hmc ⊢; exact ReadUint64Bytes_i8 W B c ad n tot h hmc hcm hB h0 (by omega)
set_option maxHeartbeats 2000000 in
set_option maxRecDepth 100000 in
theorem R16_ok (W : World) (m c : Nat) (A : Option Addr) (n : Int) (tot : List Int) (B : Nat) (h0 : -32768 ≤ n) (h1 : n ≤ 32767) (h : Calls Tryd.prog 48 #[.slice A m c] W (RB .i64 n tot B W)) :
    Calls Tryd.prog 31 #[.slice A m c] W (RB .i16 n tot B W) := by
  have d0 : decide (32767 < n) = false := decide_eq_false (by omega)
  have d1 : decide (n < -32768) = false := decide_eq_false (by omega)
  have H := Lib.hid h
  clear h
  go_enter Tryd.func31, Tryd.ntmps31
  go_wp2_with (first
    | (go_at_call 48
       go_must (
         (refine H.out.mono ?_)
         rintro e w1 ⟨A1, c1, rfl, hl1, hm1, hr1, hb1⟩
         have HR1 := Lib.hid hr1
         have HB1 := Lib.hid hb1
         clear hr1 hb1)))
  all_goals (
    ((try simp only [Exit.inBlock, Exit.then]); refine bodyPost_ret (results_tmp3Q rfl _ _ _) rfl ?_)
    exact ⟨A1, c1, rfl, hl1, hm1, HR1.out, HB1.out⟩)

set_option maxHeartbeats 2000000 in
set_option maxRecDepth 100000 in
theorem RJ_ok (W : World) (m c : Nat) (A : Option Addr) (n : Int) (tot : List Int) (B : Nat) (h : Calls Tryd.prog 48 #[.slice A m c] W (RB .i64 n tot B W)) :
    Calls Tryd.prog 40 #[.slice A m c] W (RB .i64 n tot B W) := by
  have H := Lib.hid h
  clear h
  go_enter Tryd.func40, Tryd.ntmps40
  go_wp2_with (first
    | (go_at_call 48
       go_must (
         (refine H.out.mono ?_)
         rintro e w1 ⟨A1, c1, rfl, hl1, hm1, hr1, hb1⟩
         have HR1 := Lib.hid hr1
         have HB1 := Lib.hid hb1
         clear hr1 hb1)))
  all_goals (
    ((try simp only [Exit.inBlock, Exit.then]); refine bodyPost_ret (results_tmp3Q rfl _ _ _) rfl ?_)
    exact ⟨A1, c1, rfl, hl1, hm1, HR1.out, HB1.out⟩)


/-- A value of a set, in whatever form it is written. -/
theorem itemH (W : World) (B c : Nat) (A : Option Addr) (n : Int) (enc : List Int) (hf : IntF n enc) (h0 : -32768 ≤ n) (h1 : n ≤ 32767) (tot : List Int) (h : Reads W B 1 A (enc ++ tot).length (bs (enc ++ tot))) (hmc : (enc ++ tot).length ≤ c) (hcm : c ≤ maxLen) (hB : B ≤ W.heap.size) :
    Calls Tryd.prog 31 #[.slice A (enc ++ tot).length c] W (RB .i16 n tot B W) :=
  R16_ok W _ c A n tot B h0 h1 (RI_in W B c A n enc hf (by omega) tot h hmc hcm hB)
theorem itemU (W : World) (B c : Nat) (A : Option Addr) (n : Int) (enc : List Int) (hf : IntF n enc) (h0 : 0 ≤ n) (h1 : n ≤ 18446744073709551615) (tot : List Int) (h : Reads W B 1 A (enc ++ tot).length (bs (enc ++ tot))) (hmc : (enc ++ tot).length ≤ c) (hcm : c ≤ maxLen) (hB : B ≤ W.heap.size) :
    Calls Tryd.prog 37 #[.slice A (enc ++ tot).length c] W (RB .u64 n tot B W) :=
  RU_in W B c A n enc hf h0 (by omega) tot h hmc hcm hB
theorem itemJ (W : World) (B c : Nat) (A : Option Addr) (n : Int) (enc : List Int) (hf : IntF n enc) (h0 : -9223372036854775808 ≤ n) (h1 : n ≤ 9223372036854775807) (tot : List Int) (h : Reads W B 1 A (enc ++ tot).length (bs (enc ++ tot))) (hmc : (enc ++ tot).length ≤ c) (hcm : c ≤ maxLen) (hB : B ≤ W.heap.size) :
    Calls Tryd.prog 40 #[.slice A (enc ++ tot).length c] W (RB .i64 n tot B W) :=
  RJ_ok W _ c A n tot B (RI_in W B c A n enc hf h1 tot h hmc hcm hB)

/-- The head of an array, in whatever form. -/
theorem RAH_in (W : World) (B c : Nat) (A : Option Addr) (n : Nat) (hd : List Int) (hf : HeadX n 144 16 [(220, 2), (221, 4)] hd) (h1 : n ≤ 1000) (tot : List Int) (h : Reads W B 1 A (hd ++ tot).length (bs (hd ++ tot))) (hmc : (hd ++ tot).length ≤ c) (hcm : c ≤ maxLen) (hB : B ≤ W.heap.size) :
    Calls Tryd.prog 30 #[.slice A (hd ++ tot).length c] W (RB .u32 n tot B W) := by
  obtain ⟨hl, _⟩ := headX_len hf (by simp)
  obtain ⟨ad, rfl, _, _⟩ := h.2 (by rw [List.length_append]; omega)
  rcases hf with ⟨a, b, rfl⟩ | ⟨p, hp, hok, rfl⟩
  · rw [lenQ _ tot 1 rfl] at h hmc ⊢; exact ReadArrayHeader_fix W B c ad n tot h hmc hcm hB (by omega) (by omega)
  · simp only [List.mem_cons, List.not_mem_nil, or_false] at hp
    rcases hp with rfl | rfl
    · simp only [be2Q] at h hmc ⊢
      rw [lenQ _ tot 3 rfl] at h hmc ⊢; exact ReadArrayHeader_220 W B c ad n tot h hmc hcm hB (by omega) (by omega)
    · simp only [be4Q] at h hmc ⊢
      rw [lenQ _ tot 5 rfl] at h hmc ⊢; exact ReadArrayHeader_221 W B c ad n tot h hmc hcm hB (by omega) (by omega)
theorem headA_first {n : Nat} {hd : List Int} (hf : HeadX n 144 16 [(220, 2), (221, 4)] hd) : ∃ b r, hd = b :: r ∧ b ≠ 192 := by
  rcases hf with ⟨a, b, rfl⟩ | ⟨p, hp, hok, rfl⟩
  · exact ⟨_, _, rfl, by omega⟩
  · simp only [List.mem_cons, List.not_mem_nil, or_false] at hp
    rcases hp with rfl | rfl <;> exact ⟨_, _, rfl, by decide⟩

set_option maxHeartbeats 1000000 in
theorem nilB_no (w : World) (ad : Addr) (n c : Nat) (b : Int) (hn : 0 < n) (hm : n ≤ 9223372036854775807) (hc : w.cell? ad = some (.int .u8 b)) (hb : b ≠ 192) :
    Calls Tryd.prog 29 #[.slice (some ad) n c] w fun e w' => e = .returned (.bool false) ∧ w = w' := by
  have hd : ((n : Int) == 0) = false := by rw [beq_eq_false_iff_ne]; omega
  have h1 : (b == 192) = false := by simpa using hb
  clear hb
  go_enter Tryd.func29, Tryd.ntmps29
  go_wp2
  go_ret
  exact ⟨rfl, rfl⟩
theorem nilA_no (w : World) (B c : Nat) (A : Option Addr) (n : Nat) (hd : List Int) (hf : HeadX n 144 16 [(220, 2), (221, 4)] hd) (tot : List Int) (h : Reads w B 1 A (hd ++ tot).length (bs (hd ++ tot))) (hmc : (hd ++ tot).length ≤ c) (hcm : c ≤ maxLen) :
    Calls Tryd.prog 29 #[.slice A (hd ++ tot).length c] w fun e w' => e = .returned (.bool false) ∧ w = w' := by
  obtain ⟨b, r, rfl, hb⟩ := headA_first hf
  obtain ⟨ad, rfl, _, hc⟩ := h.byte (k := 0) (by simp)
  rw [Addr.add_zero'] at hc
  exact nilB_no w ad _ c b (by simp) (by unfold maxLen at hcm; omega) (by rw [hc]; rfl) hb

set_option maxHeartbeats 1000000 in
set_option maxRecDepth 100000 in
theorem enough_yes (w : World) (B c : Nat) (A : Option Addr) (n : Nat) (hd : List Int) (hf : HeadX n 144 16 [(220, 2), (221, 4)] hd) (h1 : n ≤ 1000) (tot : List Int) (hle : n ≤ tot.length) (h : Reads w B 1 A (hd ++ tot).length (bs (hd ++ tot))) (hmc : (hd ++ tot).length ≤ c) (hcm : c ≤ maxLen) (hB : B ≤ w.heap.size) :
    Calls Tryd.prog 17 #[.slice A (hd ++ tot).length c] w fun e w' => e = .returned (.bool true) ∧ Below w.heap.size w w' := by
  have hC1 := Lib.hid (nilA_no w B c A n hd hf tot h hmc hcm)
  have hC2 := Lib.hid (RAH_in w B c A n hd hf h1 tot h hmc hcm hB)
  have hd1 : decide ((tot.length : Int) < (n : Int)) = false := decide_eq_false (by omega)
  have hd2 : decide ((n : Int) ≤ (tot.length : Int)) = true := decide_eq_true (by omega)
  have htm : tot.length ≤ 9223372036854775807 := by rw [List.length_append] at hmc; unfold maxLen at hcm; omega
  clear h hf hmc hcm
  generalize (hd ++ tot).length = m at *
  go_enter Tryd.func17, Tryd.ntmps17
  go_wp2_with (first
    | (go_at_call 29
       go_must (
         (refine hC1.out.mono ?_)
         rintro e w1 ⟨rfl, rfl⟩))
    | (go_at_call 30
       go_must (
         (refine hC2.out.mono ?_)
         rintro e w1 ⟨A1, c1, rfl, hl1, hm1, hr1, hb1⟩
         have HB1 := Lib.hid hb1
         clear hr1 hb1)))
  go_ret
  exact ⟨by first | rfl | simp [hle], HB1.out⟩
end Go.Proofs.YtfhaddnacdjpoaaDoor
