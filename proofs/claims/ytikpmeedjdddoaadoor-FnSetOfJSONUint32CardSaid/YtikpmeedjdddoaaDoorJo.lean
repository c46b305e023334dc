/- setof.isJSONNull, UnmarshalJSON of the sorted sets of uint32, int8; impl.SetOfJSONUint32, SetOfJSONInt8. PRINTED by wip/genjo.py. -/
import Derived.Test.YtikpmeedjdddoaaDoorJm
import Derived.Test.YtikpmeedjdddoaaDoorJp
import Derived.WalkSpells
namespace Go.Proofs.YtikpmeedjdddoaaDoor
open Go.RowKit Go.Maps Go.Sort Go.ChangeShapes Go.WideShapes Go.Shelf
set_option linter.unusedVariables false

theorem null_no (w : World) (B n c : Nat) (ad : Addr) (T l : List Int) (hT : T = 91 :: l) (h : Reads w B 1 (some ad) n (bs T)) :
    Calls Tryd.prog 35 #[.slice (some ad) n c] w fun e w' => e = .returned (.bool false) ∧ w' = w := by
  have hcv := conv_reads (P := Tryd.prog) h 54 5 9 Tryd.underlying54 Tryd.underlying5 Tryd.underlying9 (c := c)
  have hne : (strOfNums T).toList ≠ [110, 117, 108, 108] := fun e => by
    rw [ByteArray.toList_eq, hT] at e
    simp [strOfNums] at e
  obtain ⟨s, hs⟩ : ∃ s, s = strOfNums T := ⟨_, rfl⟩
  rw [← hs] at hcv hne
  have e3 : (s.toList == [110, 117, 108, 108]) = false := by rw [beq_eq_false_iff_ne]; exact hne
  clear hs h hT hne
  go_enter Tryd.func35, Tryd.ntmps35
  go_wp2
  go_ret
  exact ⟨rfl, rfl⟩
theorem reads_bw (W : World) (e : TypeId) (T : List Int) (h : ∀ b ∈ T, 0 ≤ b ∧ b ≤ 255) : Reads (Lib.bytesWorld W e (strOfNums T)) (W.heap.size + 1) 1 (some ⟨W.heap.size, 0, none⟩) T.length (bs T) := by
  refine ⟨by simp [bs_length], fun _ => ⟨_, rfl, by simp, fun j u hu => ?_⟩⟩
  have hj : j < T.length := by
    rcases Nat.lt_or_ge j T.length with hlt | hge
    · exact hlt
    · rw [List.getElem?_eq_none (by rw [bs_length]; exact hge)] at hu; cases hu
  have hm := h (T.getD j 0) (by simp [List.getD, hj])
  have e1 : (strOfNums T).data.toList.getD j 0 = UInt8.ofNat (T.getD j 0).toNat := by
    simp [strOfNums, List.getD, hj]
  rw [add_lit, Nat.zero_add, Lib.bytesWorld_cell W e _ j (by rw [strNums_size]; exact hj), e1]
  have hu2 : u = .int .u8 (T.getD j 0) := by
    simp only [bs, List.getElem?_map, List.getElem?_eq_getElem hj] at hu
    rw [List.getD, List.getElem?_eq_getElem hj]
    exact (Option.some.inj hu).symm
  rw [hu2]
  generalize T.getD j 0 = z at hm ⊢
  have : (UInt8.ofNat z.toNat).toNat = z.toNat := by simp [UInt8.toNat_ofNat']; omega
  rw [this, Int.toNat_of_nonneg hm.1]
theorem ownsMap_setJ {P : Program} {K : TypeId} {R : Value → Option (DataW Unit × List MemPlace)} {w : World} {g b n : Nat} {D : DataW Unit} {v : Value} (h : w.ownsMap P K R b n D) (hne : g ≠ b) : (w.setCell ⟨g, 0, none⟩ v).ownsMap P K R b n D := by
  exact h.kept (grownJ_set w g 0 v) (fun e => hne (by injection e with e; exact e.symm))
theorem grownJ_fresh2 {a b c : World} {row row2 : Option Nat} (h : a.grownBy b row) (hg : b.grownBy c row2) (hr : ∀ j, row2 = some j → a.heap.size ≤ j) : a.grownBy c row :=
  ⟨hg.os.trans h.os, hg.tape.trans h.tape, hg.output.trans h.output, Nat.le_trans h.size hg.size, fun j hj hn => (hg.block j (Nat.lt_of_lt_of_le hj h.size) (fun e => by have := hr j e.symm; omega)).trans (h.block j hj hn)⟩
theorem jgB_all (z : Bool) (l : List Int) : ∀ b ∈ (91 :: (jg (itB z) l ++ [93])), 0 ≤ b ∧ b ≤ 255 := by
  have hi : ∀ x, ∀ b ∈ itB z x, 0 ≤ b ∧ b ≤ 255 := fun x b hb => by
    unfold itB bl at hb
    rw [List.mem_append] at hb
    rcases hb with hb | hb
    · split at hb
      · rw [List.mem_singleton] at hb; omega
      · cases hb
    · unfold itoaL at hb
      split at hb
      · rw [List.mem_cons] at hb
        rcases hb with rfl | hb
        · omega
        · have := digs_all _ b hb; omega
      · have := digs_all _ b hb; omega
  have hj : ∀ r : List Int, ∀ b ∈ jg (itB z) r, 0 ≤ b ∧ b ≤ 255 := fun r => by
    induction r with
    | nil => intro b hb; cases hb
    | cons x r ih =>
      cases r with
      | nil => exact hi x
      | cons y r =>
        intro b hb
        simp only [jg, List.mem_append, List.mem_cons] at hb
        rcases hb with hb | rfl | hb
        · exact hi x b hb
        · omega
        · exact ih b hb
  intro b hb
  simp only [List.mem_cons, List.mem_append, List.not_mem_nil, or_false] at hb
  rcases hb with rfl | hb | rfl
  · omega
  · exact hj l b hb
  · omega

set_option maxHeartbeats 4000000 in
set_option maxRecDepth 100000 in
theorem unjY (w : World) (B L c gs : Nat) (ad : Addr) (z : Bool) (l T : List Int) (hT : T = 91 :: (jg (itB z) l ++ [93])) (hL : L = T.length) (hL2 : L ≤ 100000) (hLc : L ≤ c) (hcm : c ≤ maxLen) (N : Nat) (hN : N = l.length) (hN1 : N ≤ 1000) (hwf : ∀ x ∈ l, -128 ≤ x ∧ x ≤ 127) (h : Reads w B 1 (some ad) L (bs T)) (hB : B ≤ w.heap.size) (hgs : Blk w gs 64 [.map none]) :
    Calls Tryd.prog 26 #[.pointer (some ⟨gs, 0, none⟩), .slice (some ad) L c] w fun e w' => e = .returned .nilIface ∧ ∃ (b : Nat) (D : DataW Unit), Blk w' gs 64 [.map (some b)] ∧ w'.ownsMap Tryd.prog 36 unitElem b N D ∧ KeysI .i8 D l ∧ w.heap.size ≤ b ∧ w.grownBy w' (some gs) := by
  have hno := null_no w B L c ad T _ hT h
  have hgw := hgs.lt
  have r0 := hgs.cell 0
  have f0 := hgs.frozen 0
  simp only [List.getElem?_cons_zero] at r0
  have hmm : ∀ W : World, (Instr.makeMap 64 none).run Tryd.prog W = .ok (.map (some W.heap.size)) (W.alloc (.map #[] 0)) := fun W => by
    simp [Instr.makeMap]
  have qT : ∀ W : World, (binOp .neq 64 (.map none) (.map none)).run Tryd.prog W = .ok (.bool false) W := fun W => run_neq_map_nil W _ _ _ none Tryd.underlying64
  have hit := iterY ((w.alloc (.cells #[.map (some (w.heap.size + 1))] 64)).alloc (.map #[] 0)) B L c w.heap.size (w.heap.size + 1) ad z l T hT hL hL2 hLc hcm N hN hN1 hwf ((h.alloc hB _).alloc (by simp; omega) _) (by simp; omega) (by omega) (by omega) ((Blk.new w _ [_]).alloc _) (by have := World.ownsMap_made (w.alloc (.cells #[.map (some (w.heap.size + 1))] 64)) Tryd.prog 36 (unitElem (H := Unit)); rw [World.size_alloc] at this; exact this)
  have HNO := Lib.hid hno
  have HIT := Lib.hid hit
  have HGS := Lib.hid hgs
  clear hno hit hgs h hT hL hLc hcm hN hwf hB
  go_enter Tryd.func26, Tryd.ntmps26
  go_wp2_with (first
    | (go_at_call 35
       go_must (
         (refine HNO.out.mono ?_)
         rintro e w1 ⟨rfl, hw1⟩
         have hw2 := hw1.symm
         subst hw2))
    | (go_at_call 36
       go_must (
         (refine HIT.out.mono ?_)
         rintro e w3 ⟨rfl, D, hown3, hD3, hg3⟩
         have hq3 := hg3.size
         simp only [World.size_alloc] at hq3
         have s3 := (((Blk.new w 64 [.map (some (w.heap.size + 1))]).alloc (.map #[] 0)).grown hg3 (fun e => by injection e with e; omega)).cell 0
         simp only [List.getElem?_cons_zero] at s3
         have hgb := ((HGS.out.alloc (.cells #[.map (some (w.heap.size + 1))] 64)).alloc (.map #[] 0)).grown hg3 (fun e => by injection e with e; omega)
         have r3 := hgb.cell 0
         have f3 := hgb.frozen 0
         simp only [List.getElem?_cons_zero] at r3
         have HGB := Lib.hid hgb
         clear hgb
         have HOWN3 := Lib.hid hown3
         have HD3 := Lib.hid hD3
         have HG3 := Lib.hid hg3
         clear hown3 hD3 hg3)))
  go_ret
  refine ⟨rfl, w.heap.size + 1, D, HGB.out.set_ 0 _, ownsMap_setJ HOWN3.out (by omega), HD3.out, by omega, ?_⟩
  have hb : Below w.heap.size w ((w.alloc (.cells #[.map (some (w.heap.size + 1))] 64)).alloc (.map #[] 0)) := ((Below.refl _ w).alloc (Nat.le_refl _) _).alloc (by simp) _
  have hg : w.grownBy ((w.alloc (.cells #[.map (some (w.heap.size + 1))] 64)).alloc (.map #[] 0)) (some gs) := ⟨hb.os, hb.tape, hb.output, hb.size, fun j hj _ => hb.block j hj⟩
  exact grownJ_trans (grownJ_fresh2 hg HG3.out (fun j hj => by cases hj; omega)) (grownJ_set _ _ _ _)

set_option maxHeartbeats 4000000 in
set_option maxRecDepth 100000 in
theorem setjY (w : World) (z : Bool) (l T : List Int) (hT : T = 91 :: (jg (itB z) l ++ [93])) (hL2 : T.length ≤ 100000) (N : Nat) (hN : N = l.length) (hN1 : N ≤ 1000) (hwf : ∀ x ∈ l, -128 ≤ x ∧ x ≤ 127) :
    Calls Tryd.prog 17 #[.string (strOfNums T)] w fun e w' => ∃ (out : List Int) (A1 : Option Addr) (c1 : Nat), SetOf l out ∧ e = .returned (.tuple #[.slice A1 out.length c1, .bool true]) ∧ w'.ownsRow w.heap.size 36 1 (.slice A1 out.length c1) out.length (out.map (Value.int .i8)) ∧ Below w.heap.size w w' := by
  obtain ⟨s, hs⟩ : ∃ s, s = strOfNums T := ⟨_, rfl⟩
  obtain ⟨L, hL⟩ : ∃ L, L = T.length := ⟨_, rfl⟩
  have hsz : s.size = L := by rw [hs, hL, strNums_size]
  have hcv := fun W : World => Lib.run_convert_string_bytes (P := Tryd.prog) W 9 54 5 s Tryd.underlying9 Tryd.underlying54 Tryd.underlying5
  simp only [hsz] at hcv
  obtain ⟨w1, hw1⟩ : ∃ w1, w1 = w.alloc (.cells #[.map none] 64) := ⟨_, rfl⟩
  have hbw := Lib.bytesWorld_below w1 5 s
  have hr1 : Reads (Lib.bytesWorld w1 5 s) (w1.heap.size + 1) 1 (some ⟨w1.heap.size, 0, none⟩) L (bs T) := by
    rw [hs, hL]
    exact reads_bw w1 5 T (by rw [hT]; exact jgB_all z l)
  have hb1 : Blk w1 w.heap.size 64 [.map none] := by rw [hw1]; exact Blk.new w _ [_]
  have hsw := Lib.bytesWorld_size w1 5 s
  have hz1 : w1.heap.size = w.heap.size + 1 := by rw [hw1, World.size_alloc]
  have hun := unjY (Lib.bytesWorld w1 5 s) (w1.heap.size + 1) L (grownCap w1 L 0 5) w.heap.size ⟨w1.heap.size, 0, none⟩ z l T hT hL (by rw [hL]; exact hL2) (grownCap_ge _ _ _ _) (grownCap_le_maxLen _ _ _ _ (by unfold maxLen; omega)) N hN hN1 hwf hr1 (by omega) (hb1.below hbw (by omega))
  rw [hz1, hw1] at hun
  rw [hw1] at hbw hsw
  have HUN := Lib.hid hun
  have HSW : Hid (w.heap.size ≤ (Lib.bytesWorld (w.alloc (.cells #[.map none] 64)) 5 s).heap.size ∧ Below w.heap.size w (Lib.bytesWorld (w.alloc (.cells #[.map none] 64)) 5 s)) := ⟨by rw [hsw]; simp; omega, ((Below.refl _ w).alloc (Nat.le_refl _) _).trans (hbw.mono (by simp))⟩
  have HN := Lib.hid hN
  obtain ⟨i0, hi0, hy0, hy1, hy2⟩ := info_parts infoY
  rw [← hs]
  clear hun hbw hsw hr1 hb1 hz1 hN hL hT hs hL2 hwf hw1 hsz
  go_enter Tryd.func17, Tryd.ntmps17
  go_wp2_with (first
    | (go_at_call 26
       go_must (
         (refine HUN.out.mono ?_)
         rintro e w3 ⟨rfl, b, D, hb3, hown3, hD3, hbb, hg3⟩
         have r3 := hb3.cell 0
         simp only [List.getElem?_cons_zero] at r3
         have hq3 : w.heap.size ≤ w3.heap.size := Nat.le_trans HSW.out.1 hg3.size
         have HBEL3 : Hid (Below w.heap.size w w3) := HSW.out.2.grown hg3 HSW.out.1 (fun j hj => by cases hj; exact Nat.le_refl _)
         have HOWN3 := Lib.hid hown3
         have HD3 := Lib.hid hD3
         clear hb3 hown3 hD3 hg3))
    | (go_at_call 27
       go_must (
         (refine (sliceY w3 b N D l HOWN3.out HD3.out (by rw [← HN.out]; exact hN1)).mono ?_)
         rintro e w4 ⟨out, g4, c4, hso, rfl, hown4, hbel4⟩
         obtain ⟨k4, hk4⟩ : ∃ k4, k4 = out.length := ⟨_, rfl⟩
         rw [← hk4] at hown4 ⊢
         have hk5 : k4 ≤ 1000 := by have := hso.2.2; have := HN.out; omega
         have HSO := Lib.hid hso
         have HK4 := Lib.hid hk4
         have HR4 : Hid (Reads w4 w4.heap.size 1 (some ⟨g4, 0, none⟩) k4 (out.map (Value.int .i8))) := Reads.of_own hown4
         have HBEL4 : Hid (Below w.heap.size w w4) := HBEL3.out.trans (hbel4.mono (by omega))
         have hq4 := hbel4.size
         clear hown4 hbel4 hso hk4)))
  go_loopw [2, 14] (fun d i wr => ∃ (k : Nat) (A' : Option Addr) (c' : Nat), k ≤ k4 ∧ i = .int .i64 (k : Nat) ∧ d = .slice A' k c' ∧ Hid (wr.ownsRow w4.heap.size 36 1 (.slice A' k c') k ((out.take k).map (Value.int .i8)) ∧ Below w4.heap.size w4 wr)) (fun _ i _ => k4 - (intOf i).toNat)
  case atStart => exact ⟨0, none, 0, Nat.zero_le _, rfl, rfl, World.ownsRow_nil _ _ _ _, Below.refl _ _⟩
  case round =>
    obtain ⟨k, A', c', hk, rfl, rfl, hst⟩ := hrel
    by_cases hlt : k < k4
    · have dk : decide ((k : Int) < (k4 : Int)) = true := decide_eq_true (by omega)
      obtain ⟨ad, hA, hadB, hkl, hcell0⟩ := HR4.out.list hlt
      cases hA
      have hcell1 : wr.cell? ((⟨g4, 0, none⟩ : Addr).add k) = some (.int .i8 (out.getD k 0)) := (hst.out.2.cell (by rw [block_of_add]; exact hadB)).trans hcell0
      have hcell : wr.cell? ⟨g4, k, none⟩ = some (.int .i8 (out.getD k 0)) := by rwa [add_lit, Nat.zero_add] at hcell1
      obtain ⟨x, hX⟩ : ∃ x, x = out.getD k 0 := ⟨_, rfl⟩
      rw [← hX] at hcell
      have hsn : (out.take (k + 1)).map (Value.int .i8) = (out.take k).map (Value.int .i8) ++ [.int .i8 x] := by rw [show out.take (k + 1) = out.take k ++ [out.getD k 0] by rw [List.take_add_one, List.getElem?_eq_getElem hkl, List.getD, List.getElem?_eq_getElem hkl]; rfl, List.map_append, ← hX]; rfl
      have HSN := Lib.hid hsn
      have hwz : w4.heap.size ≤ wr.heap.size := hst.out.2.size
      clear hcell0 hcell1 hsn hX
      go_wp2_with (
        (at_builtin)
        go_must (
          (refine wpList_append_any _ rfl (.tmp 18) (.tmp 20) 34 rfl w4.heap.size 36 i0 _ 1 1 Tryd.underlying34 hi0 hy0 hy1 hy2 rfl (by omega) (.slice A' k c') k _ rfl (hst.out.1.alloc _) (wr.heap.size + 1) _ 1 1 [.int .i8 x] rfl (reads_oneP _ _ _) (by intro u hu; rw [List.mem_singleton] at hu; subst hu; rfl) (by simp only [maxLen]; omega) (by omega) (by simp; omega) ?_)
          intro v1 w1' hown1 hg1 hat1
          obtain ⟨A1', c1', rfl⟩ := own_formS hown1
          have HO1 := Lib.hid hown1
          have HG1 := Lib.hid hg1
          clear hown1 hg1 hat1))
      go_roundw
      case rel =>
        refine ⟨k + 1, A1', c1', by omega, by go_num, by first | trivial | rfl, ?_, ?_⟩
        · rw [HSN.out]; exact HO1.out
        · exact (hst.out.2.alloc hwz _).grown HG1.out (by simp; omega) (fun j hj => (hst.out.1.lt j hj).1)
      case measure => simp [intOf]; omega
    · obtain rfl : k = k4 := by omega
      have dk : decide ((k : Int) < (k : Int)) = false := decide_eq_false (by omega)
      have hbr : Below w.heap.size w wr := HBEL4.out.trans (hst.out.2.mono (by omega))
      have hown := hst.out.1
      rw [HK4.out, List.take_length, ← HK4.out] at hown
      have HBR := Lib.hid hbr
      have HOWN := Lib.hid hown
      clear hbr hown hst
      go_wp2
      ((try simp only [Exit.inBlock, Exit.then]); refine bodyPost_ret (results_tmp2 rfl _ _ _) rfl ?_)
      refine ⟨out, A', c', HSO.out, by rw [← HK4.out]; rfl, ?_, HBR.out⟩
      rw [← HK4.out]
      exact HOWN.out.mono (by omega)


set_option maxHeartbeats 4000000 in
set_option maxRecDepth 100000 in
theorem unjW (w : World) (B L c gs : Nat) (ad : Addr) (z : Bool) (l T : List Int) (hT : T = 91 :: (jg (itB z) l ++ [93])) (hL : L = T.length) (hL2 : L ≤ 100000) (hLc : L ≤ c) (hcm : c ≤ maxLen) (N : Nat) (hN : N = l.length) (hN1 : N ≤ 1000) (hwf : ∀ x ∈ l, 0 ≤ x ∧ x ≤ 4294967295) (h : Reads w B 1 (some ad) L (bs T)) (hB : B ≤ w.heap.size) (hgs : Blk w gs 52 [.map none]) :
    Calls Tryd.prog 24 #[.pointer (some ⟨gs, 0, none⟩), .slice (some ad) L c] w fun e w' => e = .returned .nilIface ∧ ∃ (b : Nat) (D : DataW Unit), Blk w' gs 52 [.map (some b)] ∧ w'.ownsMap Tryd.prog 24 unitElem b N D ∧ KeysI .u32 D l ∧ w.heap.size ≤ b ∧ w.grownBy w' (some gs) := by
  have hno := null_no w B L c ad T _ hT h
  have hgw := hgs.lt
  have r0 := hgs.cell 0
  have f0 := hgs.frozen 0
  simp only [List.getElem?_cons_zero] at r0
  have hmm : ∀ W : World, (Instr.makeMap 52 none).run Tryd.prog W = .ok (.map (some W.heap.size)) (W.alloc (.map #[] 0)) := fun W => by
    simp [Instr.makeMap]
  have qT : ∀ W : World, (binOp .neq 52 (.map none) (.map none)).run Tryd.prog W = .ok (.bool false) W := fun W => run_neq_map_nil W _ _ _ none Tryd.underlying52
  have hit := iterW ((w.alloc (.cells #[.map (some (w.heap.size + 1))] 52)).alloc (.map #[] 0)) B L c w.heap.size (w.heap.size + 1) ad z l T hT hL hL2 hLc hcm N hN hN1 hwf ((h.alloc hB _).alloc (by simp; omega) _) (by simp; omega) (by omega) (by omega) ((Blk.new w _ [_]).alloc _) (by have := World.ownsMap_made (w.alloc (.cells #[.map (some (w.heap.size + 1))] 52)) Tryd.prog 24 (unitElem (H := Unit)); rw [World.size_alloc] at this; exact this)
  have HNO := Lib.hid hno
  have HIT := Lib.hid hit
  have HGS := Lib.hid hgs
  clear hno hit hgs h hT hL hLc hcm hN hwf hB
  go_enter Tryd.func24, Tryd.ntmps24
  go_wp2_with (first
    | (go_at_call 35
       go_must (
         (refine HNO.out.mono ?_)
         rintro e w1 ⟨rfl, hw1⟩
         have hw2 := hw1.symm
         subst hw2))
    | (go_at_call 36
       go_must (
         (refine HIT.out.mono ?_)
         rintro e w3 ⟨rfl, D, hown3, hD3, hg3⟩
         have hq3 := hg3.size
         simp only [World.size_alloc] at hq3
         have s3 := (((Blk.new w 52 [.map (some (w.heap.size + 1))]).alloc (.map #[] 0)).grown hg3 (fun e => by injection e with e; omega)).cell 0
         simp only [List.getElem?_cons_zero] at s3
         have hgb := ((HGS.out.alloc (.cells #[.map (some (w.heap.size + 1))] 52)).alloc (.map #[] 0)).grown hg3 (fun e => by injection e with e; omega)
         have r3 := hgb.cell 0
         have f3 := hgb.frozen 0
         simp only [List.getElem?_cons_zero] at r3
         have HGB := Lib.hid hgb
         clear hgb
         have HOWN3 := Lib.hid hown3
         have HD3 := Lib.hid hD3
         have HG3 := Lib.hid hg3
         clear hown3 hD3 hg3)))
  go_ret
  refine ⟨rfl, w.heap.size + 1, D, HGB.out.set_ 0 _, ownsMap_setJ HOWN3.out (by omega), HD3.out, by omega, ?_⟩
  have hb : Below w.heap.size w ((w.alloc (.cells #[.map (some (w.heap.size + 1))] 52)).alloc (.map #[] 0)) := ((Below.refl _ w).alloc (Nat.le_refl _) _).alloc (by simp) _
  have hg : w.grownBy ((w.alloc (.cells #[.map (some (w.heap.size + 1))] 52)).alloc (.map #[] 0)) (some gs) := ⟨hb.os, hb.tape, hb.output, hb.size, fun j hj _ => hb.block j hj⟩
  exact grownJ_trans (grownJ_fresh2 hg HG3.out (fun j hj => by cases hj; omega)) (grownJ_set _ _ _ _)

set_option maxHeartbeats 4000000 in
set_option maxRecDepth 100000 in
theorem setjW (w : World) (z : Bool) (l T : List Int) (hT : T = 91 :: (jg (itB z) l ++ [93])) (hL2 : T.length ≤ 100000) (N : Nat) (hN : N = l.length) (hN1 : N ≤ 1000) (hwf : ∀ x ∈ l, 0 ≤ x ∧ x ≤ 4294967295) :
    Calls Tryd.prog 13 #[.string (strOfNums T)] w fun e w' => ∃ (out : List Int) (A1 : Option Addr) (c1 : Nat), SetOf l out ∧ e = .returned (.tuple #[.slice A1 out.length c1, .bool true]) ∧ w'.ownsRow w.heap.size 24 1 (.slice A1 out.length c1) out.length (out.map (Value.int .u32)) ∧ Below w.heap.size w w' := by
  obtain ⟨s, hs⟩ : ∃ s, s = strOfNums T := ⟨_, rfl⟩
  obtain ⟨L, hL⟩ : ∃ L, L = T.length := ⟨_, rfl⟩
  have hsz : s.size = L := by rw [hs, hL, strNums_size]
  have hcv := fun W : World => Lib.run_convert_string_bytes (P := Tryd.prog) W 9 54 5 s Tryd.underlying9 Tryd.underlying54 Tryd.underlying5
  simp only [hsz] at hcv
  obtain ⟨w1, hw1⟩ : ∃ w1, w1 = w.alloc (.cells #[.map none] 52) := ⟨_, rfl⟩
  have hbw := Lib.bytesWorld_below w1 5 s
  have hr1 : Reads (Lib.bytesWorld w1 5 s) (w1.heap.size + 1) 1 (some ⟨w1.heap.size, 0, none⟩) L (bs T) := by
    rw [hs, hL]
    exact reads_bw w1 5 T (by rw [hT]; exact jgB_all z l)
  have hb1 : Blk w1 w.heap.size 52 [.map none] := by rw [hw1]; exact Blk.new w _ [_]
  have hsw := Lib.bytesWorld_size w1 5 s
  have hz1 : w1.heap.size = w.heap.size + 1 := by rw [hw1, World.size_alloc]
  have hun := unjW (Lib.bytesWorld w1 5 s) (w1.heap.size + 1) L (grownCap w1 L 0 5) w.heap.size ⟨w1.heap.size, 0, none⟩ z l T hT hL (by rw [hL]; exact hL2) (grownCap_ge _ _ _ _) (grownCap_le_maxLen _ _ _ _ (by unfold maxLen; omega)) N hN hN1 hwf hr1 (by omega) (hb1.below hbw (by omega))
  rw [hz1, hw1] at hun
  rw [hw1] at hbw hsw
  have HUN := Lib.hid hun
  have HSW : Hid (w.heap.size ≤ (Lib.bytesWorld (w.alloc (.cells #[.map none] 52)) 5 s).heap.size ∧ Below w.heap.size w (Lib.bytesWorld (w.alloc (.cells #[.map none] 52)) 5 s)) := ⟨by rw [hsw]; simp; omega, ((Below.refl _ w).alloc (Nat.le_refl _) _).trans (hbw.mono (by simp))⟩
  have HN := Lib.hid hN
  obtain ⟨i0, hi0, hy0, hy1, hy2⟩ := info_parts infoW
  rw [← hs]
  clear hun hbw hsw hr1 hb1 hz1 hN hL hT hs hL2 hwf hw1 hsz
  go_enter Tryd.func13, Tryd.ntmps13
  go_wp2_with (first
    | (go_at_call 24
       go_must (
         (refine HUN.out.mono ?_)
         rintro e w3 ⟨rfl, b, D, hb3, hown3, hD3, hbb, hg3⟩
         have r3 := hb3.cell 0
         simp only [List.getElem?_cons_zero] at r3
         have hq3 : w.heap.size ≤ w3.heap.size := Nat.le_trans HSW.out.1 hg3.size
         have HBEL3 : Hid (Below w.heap.size w w3) := HSW.out.2.grown hg3 HSW.out.1 (fun j hj => by cases hj; exact Nat.le_refl _)
         have HOWN3 := Lib.hid hown3
         have HD3 := Lib.hid hD3
         clear hb3 hown3 hD3 hg3))
    | (go_at_call 25
       go_must (
         (refine (sliceW w3 b N D l HOWN3.out HD3.out (by rw [← HN.out]; exact hN1)).mono ?_)
         rintro e w4 ⟨out, g4, c4, hso, rfl, hown4, hbel4⟩
         obtain ⟨k4, hk4⟩ : ∃ k4, k4 = out.length := ⟨_, rfl⟩
         rw [← hk4] at hown4 ⊢
         have hk5 : k4 ≤ 1000 := by have := hso.2.2; have := HN.out; omega
         have HSO := Lib.hid hso
         have HK4 := Lib.hid hk4
         have HR4 : Hid (Reads w4 w4.heap.size 1 (some ⟨g4, 0, none⟩) k4 (out.map (Value.int .u32))) := Reads.of_own hown4
         have HBEL4 : Hid (Below w.heap.size w w4) := HBEL3.out.trans (hbel4.mono (by omega))
         have hq4 := hbel4.size
         clear hown4 hbel4 hso hk4)))
  go_loopw [2, 14] (fun d i wr => ∃ (k : Nat) (A' : Option Addr) (c' : Nat), k ≤ k4 ∧ i = .int .i64 (k : Nat) ∧ d = .slice A' k c' ∧ Hid (wr.ownsRow w4.heap.size 24 1 (.slice A' k c') k ((out.take k).map (Value.int .u32)) ∧ Below w4.heap.size w4 wr)) (fun _ i _ => k4 - (intOf i).toNat)
  case atStart => exact ⟨0, none, 0, Nat.zero_le _, rfl, rfl, World.ownsRow_nil _ _ _ _, Below.refl _ _⟩
  case round =>
    obtain ⟨k, A', c', hk, rfl, rfl, hst⟩ := hrel
    by_cases hlt : k < k4
    · have dk : decide ((k : Int) < (k4 : Int)) = true := decide_eq_true (by omega)
      obtain ⟨ad, hA, hadB, hkl, hcell0⟩ := HR4.out.list hlt
      cases hA
      have hcell1 : wr.cell? ((⟨g4, 0, none⟩ : Addr).add k) = some (.int .u32 (out.getD k 0)) := (hst.out.2.cell (by rw [block_of_add]; exact hadB)).trans hcell0
      have hcell : wr.cell? ⟨g4, k, none⟩ = some (.int .u32 (out.getD k 0)) := by rwa [add_lit, Nat.zero_add] at hcell1
      obtain ⟨x, hX⟩ : ∃ x, x = out.getD k 0 := ⟨_, rfl⟩
      rw [← hX] at hcell
      have hsn : (out.take (k + 1)).map (Value.int .u32) = (out.take k).map (Value.int .u32) ++ [.int .u32 x] := by rw [show out.take (k + 1) = out.take k ++ [out.getD k 0] by rw [List.take_add_one, List.getElem?_eq_getElem hkl, List.getD, List.getElem?_eq_getElem hkl]; rfl, List.map_append, ← hX]; rfl
      have HSN := Lib.hid hsn
      have hwz : w4.heap.size ≤ wr.heap.size := hst.out.2.size
      clear hcell0 hcell1 hsn hX
      go_wp2_with (
        (at_builtin)
        go_must (
          (refine wpList_append_any _ rfl (.tmp 18) (.tmp 20) 22 rfl w4.heap.size 24 i0 _ 1 4 Tryd.underlying22 hi0 hy0 hy1 hy2 rfl (by omega) (.slice A' k c') k _ rfl (hst.out.1.alloc _) (wr.heap.size + 1) _ 1 1 [.int .u32 x] rfl (reads_oneP _ _ _) (by intro u hu; rw [List.mem_singleton] at hu; subst hu; rfl) (by simp only [maxLen]; omega) (by omega) (by simp; omega) ?_)
          intro v1 w1' hown1 hg1 hat1
          obtain ⟨A1', c1', rfl⟩ := own_formS hown1
          have HO1 := Lib.hid hown1
          have HG1 := Lib.hid hg1
          clear hown1 hg1 hat1))
      go_roundw
      case rel =>
        refine ⟨k + 1, A1', c1', by omega, by go_num, by first | trivial | rfl, ?_, ?_⟩
        · rw [HSN.out]; exact HO1.out
        · exact (hst.out.2.alloc hwz _).grown HG1.out (by simp; omega) (fun j hj => (hst.out.1.lt j hj).1)
      case measure => simp [intOf]; omega
    · obtain rfl : k = k4 := by omega
      have dk : decide ((k : Int) < (k : Int)) = false := decide_eq_false (by omega)
      have hbr : Below w.heap.size w wr := HBEL4.out.trans (hst.out.2.mono (by omega))
      have hown := hst.out.1
      rw [HK4.out, List.take_length, ← HK4.out] at hown
      have HBR := Lib.hid hbr
      have HOWN := Lib.hid hown
      clear hbr hown hst
      go_wp2
      ((try simp only [Exit.inBlock, Exit.then]); refine bodyPost_ret (results_tmp2 rfl _ _ _) rfl ?_)
      refine ⟨out, A', c', HSO.out, by rw [← HK4.out]; rfl, ?_, HBR.out⟩
      rw [← HK4.out]
      exact HOWN.out.mono (by omega)

end Go.Proofs.YtikpmeedjdddoaaDoor
