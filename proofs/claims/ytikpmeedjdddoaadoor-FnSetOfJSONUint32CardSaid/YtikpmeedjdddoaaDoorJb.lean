/- MarshalJSON of the sorted sets of uint32, int8; impl.JSONSetUint32, JSONSetInt8. PRINTED by wip/genjb.py. -/
import Derived.Test.YtikpmeedjdddoaaDoorJa
import Derived.Test.YtikpmeedjdddoaaDoorJi
import Derived.Test.YtikpmeedjdddoaaDoorJLa
import Derived.Test.YtikpmeedjdddoaaDoorJLb
import Derived.Carry
import Derived.Laws.BytesArg
import Derived.Lib.BufferKept
namespace Go.Proofs.YtikpmeedjdddoaaDoor
open Go.RowKit Go.Maps Go.Sort Go.ChangeShapes Go.WideShapes Go.Shelf
set_option linter.unusedVariables false

theorem conv_reads {P : Program} {w : World} {B n c : Nat} {A : Option Addr} {l : List Int} (h : Reads w B 1 A n (bs l)) (src e dst : TypeId) (hs : P.underlying src = some (.slice e)) (he : P.underlying e = some (.int .u8)) (hd : P.underlying dst = some .string) :
    (convert src dst (.slice A n c)).run P w = .ok (.string (strOfNums l)) w := by
  have hn := h.bytes
  rcases A with _ | ad
  · have h0 : n = 0 := by
      rcases Nat.eq_zero_or_pos n with h0 | h0
      · exact h0
      · obtain ⟨_, h1, _⟩ := h.2 h0
        cases h1
    have : l = [] := List.eq_nil_of_length_eq_zero (by omega)
    subst this
    exact run_convert_bytes_nil w src e hs he n c dst hd
  · have hl : (loadCells ad n).run P w = .ok (l.map (Value.int .u8)).toArray w := by
      have := run_loadCells_list (P := P) w ad (l.map (Value.int .u8)) (fun j v hj => by
        have hj0 : 0 < n := by
          rcases Nat.eq_zero_or_pos n with h0 | h0
          · have : l = [] := List.eq_nil_of_length_eq_zero (by omega)
            subst this
            simp at hj
          · exact h0
        obtain ⟨ad', h1, _, h2⟩ := h.2 hj0
        injection h1 with h1
        subst h1
        exact h2 j v hj)
      simpa [hn] using this
    rw [run_convert_bytes_string w src dst e _ n c hs he hd, run_bytesToString w ad n c l hl, foldl_push_bytes]
    simp [strOfNums, ByteArray.empty, ByteArray.emptyWithCapacity]
    rfl
theorem ownsMap_below {w w' : World} {P : Program} {k : TypeId} {R : Value → Option (DataW Unit × List MemPlace)} {b n B : Nat} {D : DataW Unit} (h : w.ownsMap P k R b n D) (hb : Below B w w') (hlt : b < B) : w'.ownsMap P k R b n D := by
  obtain ⟨es, clock, h1, h2⟩ := h
  exact ⟨es, clock, (hb.block b hlt).trans h1, h2⟩

theorem reads_oneP (w : World) (v : Value) (t : TypeId) : Reads (w.alloc (.cells #[v] t)) (w.heap.size + 1) 1 (some ⟨w.heap.size, 0, none⟩) 1 [v] := by
  refine ⟨rfl, fun _ => ⟨_, rfl, by simp, fun j u hu => ?_⟩⟩
  rw [add_lit, Nat.zero_add]
  exact ((Blk.new w t [v]).cell j).trans hu
/-- A call made a row of bytes of its own. -/
theorem bs_of_bytes (l : List UInt8) : Lib.byteCells l = bs (l.map fun b => (b.toNat : Int)) := by simp [Lib.byteCells, bs]
theorem one_new (w : World) (x : Int) : Reads (w.alloc (.cells #[.int .u8 x] 5)) (w.heap.size + 1) 1 (some ⟨w.heap.size, 0, none⟩) 1 (bs [x]) := reads_oneP w (.int .u8 x) 5
/-- The table that the library's numerals are counted by. -/
def TabJ (w : World) : Prop := Lib.TabBelow Tryd.prog w.heap.size w "internal/strconv.uint64pow10" .u64 Lib.pow10Tab
theorem TabJ.at_ {w W : World} (h : TabJ w) (hb : Below w.heap.size w W) {B : Nat} (hB : w.heap.size ≤ B) : Lib.TabBelow Tryd.prog B W "internal/strconv.uint64pow10" .u64 Lib.pow10Tab :=
  fun w' h' => h w' (hb.trans (h'.mono hB))
theorem TabJ.on {w W : World} (h : TabJ w) (hb : Below w.heap.size w W) : TabJ W := h.at_ hb hb.size
/-- What an appender leaves. -/
def AppJ (w : World) (B n : Nat) (l m : List Int) (e : Ending) (w' : World) : Prop := ∃ A c, e = .returned (.slice A (n + m.length) c) ∧ w'.ownsRow B 5 1 (.slice A (n + m.length) c) (n + m.length) (bs (l ++ m)) ∧ Below B w w'
theorem appendI (w : World) (B n : Nat) (x : Int) (h0 : -9223372036854775808 ≤ x) (h1 : x ≤ 9223372036854775807) (v : Value) (l : List Int) (hown : w.ownsRow B 5 1 v n (bs l)) (hB : B ≤ w.heap.size) (hn : n ≤ 100000)
    (ht : Lib.TabBelow Tryd.prog B w "internal/strconv.uint64pow10" .u64 Lib.pow10Tab) : Calls Tryd.prog 34 #[v, .int .i64 x, .int .i64 10] w (AppJ w B n l (itoaL x)) := by
  have h := Any.strconv_AppendInt_10 Tryd.ai B n x h0 h1 v (bs l) w hown hB (by omega) ht
  refine Calls.mono (show Calls Tryd.prog 34 #[v, .int .i64 x, .int .i64 10] w _ from h) ?_
  rintro e w' ⟨v', rfl, hown', hb, _⟩
  obtain ⟨A, c, rfl⟩ := own_formS hown'
  have hl : (Lib.itoa x).length = (itoaL x).length := by rw [← itoaL_lib, List.length_map]
  rw [bs_of_bytes, ← bs_append, itoaL_lib, hl] at hown'
  exact ⟨A, c, by rw [hl], hown', hb⟩
set_option maxHeartbeats 1000000 in
theorem appendU (w : World) (B n : Nat) (x : Int) (h0 : 0 ≤ x) (h1 : x ≤ 4294967295) (v : Value) (l : List Int) (hown : w.ownsRow B 5 1 v n (bs l)) (hB : B ≤ w.heap.size) (hn : n ≤ 100000)
    (ht : Lib.TabBelow Tryd.prog B w "internal/strconv.uint64pow10" .u64 Lib.pow10Tab) : Calls Tryd.prog 28 #[v, .int .u64 x, .int .i64 10] w (AppJ w B n l (itoaL x)) := by
  obtain ⟨u, rfl⟩ : ∃ u : Nat, x = u := ⟨x.toNat, by omega⟩
  have hi : Calls Tryd.prog 45 #[v, .int .u64 u, .int .i64 10] w (AppJ w B n l (itoaL u)) := by
    have h := Any.internal_strconv_AppendUint_10 Tryd.au B n u (by omega) v (bs l) w hown hB (by omega) ht.here
    refine Calls.mono (show Calls Tryd.prog 45 #[v, .int .u64 u, .int .i64 10] w _ from h) ?_
    rintro e w' ⟨v', rfl, hown', hb, _⟩
    obtain ⟨A, c, rfl⟩ := own_formS hown'
    have hd : (Lib.decDigits u).map (fun b => (b.toNat : Int)) = itoaL u := by
      unfold itoaL digs
      rw [if_neg (by omega)]
      simp
    have hl : (Lib.decDigits u).length = (itoaL u).length := by rw [← hd, List.length_map]
    rw [bs_of_bytes, ← bs_append, hd, hl] at hown'
    exact ⟨A, c, by rw [hl], hown', hb⟩
  have HI := Lib.hid hi
  clear hi hown ht h0 h1
  go_enter Tryd.func28, Tryd.ntmps28
  go_wp2_with (
    (go_at_call 45)
    go_must (
      (refine HI.out.mono ?_)
      rintro e w1 ⟨A1, c1, rfl, ho1, hb1⟩
      have HO1 := Lib.hid ho1
      have HB1 := Lib.hid hb1
      clear ho1 hb1))
  go_ret
  exact ⟨A1, c1, rfl, HO1.out, HB1.out⟩
theorem itoaL_len (x : Int) (h0 : -4294967296 ≤ x) (h1 : x ≤ 4294967295) : (itoaL x).length ≤ 11 := by
  have key : ∀ k u : Nat, u < 10 ^ k → 0 < k → (digs u).length ≤ k := fun k => by
    induction k with
    | zero => intro u _ h; omega
    | succ k ih =>
      intro u hu _
      by_cases h : u < 10
      · rw [digs_small h]; simp
      · have hk : 0 < k := by
          rcases Nat.eq_zero_or_pos k with rfl | hk
          · simp at hu; omega
          · exact hk
        have := ih (u / 10) (by rw [Nat.pow_succ] at hu; omega) hk
        rw [digs_step h]; simp; omega
  unfold itoaL
  split
  · have := key 10 x.natAbs (by have : (10 : Nat) ^ 10 = 10000000000 := by decide
                                omega) (by decide)
    simp; omega
  · have := key 10 x.toNat (by have : (10 : Nat) ^ 10 = 10000000000 := by decide
                               omega) (by decide)
    omega
theorem jn_len (l : List Int) (h : ∀ x ∈ l, -4294967296 ≤ x ∧ x ≤ 4294967295) : (jn l).length ≤ 12 * l.length := by
  induction l with
  | nil => simp [jn]
  | cons x r ih =>
    have h1 := itoaL_len x (h x (List.mem_cons_self ..)).1 (h x (List.mem_cons_self ..)).2
    cases r with
    | nil => simp [jn]; omega
    | cons y r =>
      have := ih (fun z hz => h z (List.mem_cons_of_mem _ hz))
      simp only [jn, List.length_append, List.length_cons] at this ⊢
      omega
theorem jn_take (l : List Int) (k : Nat) (h : k < l.length) : jn (l.take (k + 1)) = if k = 0 then itoaL (l.getD k 0) else jn (l.take k) ++ 44 :: itoaL (l.getD k 0) := by
  have e : l.take (k + 1) = l.take k ++ [l.getD k 0] := by
    rw [List.take_add_one, List.getElem?_eq_getElem h, List.getD, List.getElem?_eq_getElem h]; rfl
  rw [e, jn_snoc]
  by_cases h0 : k = 0
  · subst h0; simp
  · rw [if_neg (take_neJ (by omega) (by omega)), if_neg h0]
theorem pre_zero (l : List Int) (k : Nat) (h : k < l.length) (h0 : k = 0) : (91 :: jn (l.take k)) ++ itoaL (l.getD k 0) = 91 :: jn (l.take (k + 1)) := by
  rw [jn_take l k h, if_pos h0]; subst h0; rfl
theorem pre_more (l : List Int) (k : Nat) (h : k < l.length) (h0 : ¬ k = 0) : ((91 :: jn (l.take k)) ++ [44]) ++ itoaL (l.getD k 0) = 91 :: jn (l.take (k + 1)) := by
  rw [jn_take l k h, if_neg h0]; simp
theorem pre_len (l : List Int) (k : Nat) (h : ∀ x ∈ l, -4294967296 ≤ x ∧ x ≤ 4294967295) (hk : k ≤ 1000) : (91 :: jn (l.take k)).length ≤ 12001 := by
  have := jn_len (l.take k) (fun x hx => h x (List.mem_of_mem_take hx))
  rw [List.length_take] at this
  simp only [List.length_cons]
  omega

set_option maxHeartbeats 4000000 in
set_option maxRecDepth 100000 in
theorem marshW (w : World) (b n : Nat) (D : DataW Unit) (l : List Int) (hown : w.ownsMap Tryd.prog 24 unitElem b n D) (hD : KeysI .u32 D l) (hl : l.length ≤ 1000) (hwf : ∀ x ∈ l, 0 ≤ x ∧ x ≤ 4294967295) (ht : TabJ w) :
    Calls Tryd.prog 20 #[.map (some b)] w fun e w' => ∃ out A c, SetOf l out ∧ e = .returned (.tuple #[.slice A (91 :: (jn out ++ [93])).length c, .nilIface]) ∧ Reads w' w'.heap.size 1 A (91 :: (jn out ++ [93])).length (bs (91 :: (jn out ++ [93]))) ∧ Below w.heap.size w w' := by
  have hs := sliceW w b n D l hown hD hl
  have HS := Lib.hid hs
  have HWF := Lib.hid hwf
  have HT := Lib.hid ht
  obtain ⟨i1, hi1, hz10, hz11, hz12⟩ := info_parts infoU8
  have qT : ∀ W : World, (binOp .eql 52 (.map (some b)) (.map none)).run Tryd.prog W = .ok (.bool false) W := fun W => run_eql_map_nil W _ _ _ (some b) Tryd.underlying52
  clear hs hwf ht hown hD
  go_enter Tryd.func20, Tryd.ntmps20
  go_wp2_with (first
    | (go_at_call 25
       go_must (
         (refine HS.out.mono ?_)
         rintro e w1 ⟨out, g1, c1, hso, rfl, hown1, hb1⟩
         obtain ⟨m, hm⟩ : ∃ m, m = out.length := ⟨_, rfl⟩
         rw [← hm] at hown1 ⊢
         have hm1 : m ≤ 1000 := by have := hso.2.2; omega
         have hw1 : IntKind.i64.wrap ((m : Int) * 10) = (m : Int) * 10 := by rw [IntKind.wrap_i64]; omega
         have hw2 : IntKind.i64.wrap (2 + (m : Int) * 10) = 2 + (m : Int) * 10 := by rw [IntKind.wrap_i64]; omega
         have HSO := Lib.hid hso
         have HM := Lib.hid hm
         have HR1 : Hid (Reads w1 w1.heap.size 1 (some ⟨g1, 0, none⟩) m (out.map (Value.int .u32))) := Reads.of_own hown1
         have HB1 := Lib.hid hb1
         have hq1 := hb1.size
         clear hown1 hso hm hb1))
    | (at_make
       go_must (
         refine wpList_make_own _ rfl _ _ 54 rfl w1.heap.size 5 i1 (.int .u8 0) 1 Tryd.underlying54 hi1 hz10 hz11 _ _ _ (2 + m * 10) rfl (by go_num) (by go_num) (by rw [hz12]; omega) (by simp only [maxLen]; omega) (by simp) ?_
         intro w2 hrow2 hg2
         have HO2 := Lib.hid hrow2
         have HB2 : Hid (Below w1.heap.size w1 w2) := (Below.refl _ _).grown hg2 (Nat.le_refl _) (fun j hj => by cases hj)
         clear hrow2 hg2))
    | (at_builtin
       go_must (
         refine wpList_append_any _ rfl (.tmp 19) (.tmp 20) 54 rfl w1.heap.size 5 i1 _ 1 1 Tryd.underlying54 hi1 hz10 hz11 hz12 rfl (by omega) _ 0 [] rfl (HO2.out.alloc _) (w2.heap.size + 1) _ 1 1 (bs [91]) rfl (one_new _ _) (bs_one _) (by simp only [maxLen]; omega) (by omega) (by have := HB2.out.size; simp; omega) ?_
         intro v3 w3 hown3 hg3 hat3
         obtain ⟨A3, c3, rfl⟩ := own_formS hown3
         have HO3 := Lib.hid hown3
         have HB3 : Hid (Below w1.heap.size w1 w3) := (HB2.out.alloc HB2.out.size _).grown hg3 (by have := HB2.out.size; simp; omega) (fun j hj => (HO2.out.lt j hj).1)
         clear hown3 hg3 hat3)))
  go_loopw [5, 24] (fun d i wr => ∃ (k L : Nat) (A' : Option Addr) (c' : Nat), k ≤ m ∧ i = .int .i64 (k : Nat) ∧ d = .slice A' L c' ∧ Hid (L = (91 :: jn (out.take k)).length ∧ wr.ownsRow w1.heap.size 5 1 (.slice A' L c') L (bs (91 :: jn (out.take k))) ∧ Below w1.heap.size w1 wr)) (fun _ i _ => m - (intOf i).toNat)
  case atStart => exact ⟨0, 1, A3, c3, Nat.zero_le _, rfl, rfl, rfl, HO3.out, HB3.out⟩
  case round =>
    obtain ⟨k, L, A', c', hk, rfl, rfl, hst⟩ := hrel
    have hwo : ∀ x ∈ out, -4294967296 ≤ x ∧ x ≤ 4294967295 := fun x hx => by
      have := HWF.out x ((HSO.out.2.1 x).1 hx); omega
    have hL1 : L ≤ 12001 := by rw [hst.out.1]; exact pre_len out k hwo (by omega)
    have hqr := hst.out.2.2.size
    by_cases hlt : k < m
    · have dk : decide ((k : Int) < (m : Int)) = true := decide_eq_true (by omega)
      obtain ⟨ad, hA, hadB, hkl, hcell0⟩ := HR1.out.list hlt
      cases hA
      have hcell1 : wr.cell? ((⟨g1, 0, none⟩ : Addr).add k) = some (.int .u32 (out.getD k 0)) := (hst.out.2.2.cell (by rw [block_of_add]; exact hadB)).trans hcell0
      have hcell : wr.cell? ⟨g1, k, none⟩ = some (.int .u32 (out.getD k 0)) := by rwa [add_lit, Nat.zero_add] at hcell1
      have hx0 := HWF.out _ ((HSO.out.2.1 _).1 (getD_memS out k hkl))
      have p0 := pre_zero out k hkl
      have p1 := pre_more out k hkl
      obtain ⟨x, hX⟩ : ∃ x, x = out.getD k 0 := ⟨_, rfl⟩
      rw [← hX] at hcell p0 p1 hx0
      have hxl := itoaL_len x (by omega) (by omega)
      obtain ⟨hxa, hxb⟩ := hx0
      have hw64 : IntKind.u64.wrap x = x := by rw [IntKind.wrap_u64]; omega
      have P0 := Lib.hid p0
      have P1 := Lib.hid p1
      clear hcell0 hcell1 hX p0 p1 hwo
      by_cases hk0 : k = 0
      · have dz : decide ((0 : Int) < (k : Int)) = false := decide_eq_false (by omega)
        have dz2 : decide (0 < k) = false := decide_eq_false (by omega)
        have dz3 : (0 < k) = False := eq_false (by omega)
        have hca := appendU wr w1.heap.size L x (by omega) (by omega) (.slice A' L c') (91 :: jn (out.take k)) hst.out.2.1 hqr (by omega) (HT.out.at_ (HB1.out.trans (hst.out.2.2.mono hq1)) hq1)
        have HCA := Lib.hid hca
        have HK0 := Lib.hid hk0
        clear hca hk0
        go_wp2_with (
          (go_at_call 28)
          go_must (
            (refine HCA.out.mono ?_)
            rintro e w5 ⟨A5, c5, rfl, ho5, hb5⟩
            obtain ⟨L5, hL5⟩ : ∃ L5, L5 = L + (itoaL x).length := ⟨_, rfl⟩
            rw [← hL5] at ho5 ⊢
            have HL5 := Lib.hid hL5
            have HO5 := Lib.hid ho5
            have HB5 := Lib.hid hb5
            clear hL5 ho5 hb5))
        go_roundw
        case rel =>
          refine ⟨k + 1, L5, A5, c5, by omega, by go_num, by first | trivial | rfl, ?_, ?_, hst.out.2.2.trans HB5.out⟩
          · rw [← P0.out HK0.out, HL5.out, hst.out.1, List.length_append]
          · rw [← P0.out HK0.out]; exact HO5.out
        case measure => simp [intOf]; omega
      · have dz : decide ((0 : Int) < (k : Int)) = true := decide_eq_true (by omega)
        have hcaf := fun (W : World) (v : Value) (h1 : W.ownsRow w1.heap.size 5 1 v (L + 1) (bs (91 :: jn (out.take k) ++ [44]))) (h2 : Below w1.heap.size w1 W) => appendU W w1.heap.size (L + 1) x (by omega) (by omega) v (91 :: jn (out.take k) ++ [44]) h1 h2.size (by omega) (HT.out.at_ (HB1.out.trans (h2.mono hq1)) hq1)
        have HCA := Lib.hid hcaf
        clear hcaf
        go_wp2_with (first
          | (at_builtin
             go_must (
               refine wpList_append_any _ rfl (.tmp 31) (.tmp 32) 54 rfl w1.heap.size 5 i1 _ 1 1 Tryd.underlying54 hi1 hz10 hz11 hz12 rfl (by omega) (.slice A' L c') L _ rfl (hst.out.2.1.alloc _) (wr.heap.size + 1) _ 1 1 (bs [44]) rfl (one_new _ _) (bs_one _) (by simp only [maxLen]; omega) (by omega) (by simp; omega) ?_
               intro v4 w4 hown4 hg4 hat4
               obtain ⟨A4, c4, rfl⟩ := own_formS hown4
               rw [← bs_append] at hown4
               obtain ⟨L4, hL4⟩ : ∃ L4, L4 = L + 1 := ⟨_, rfl⟩
               rw [← hL4] at hown4 ⊢
               have HL4 := Lib.hid hL4
               have HO4 := Lib.hid hown4
               have HB4 : Hid (Below w1.heap.size w1 w4) := (hst.out.2.2.alloc hqr _).grown hg4 (by simp; omega) (fun j hj => (hst.out.2.1.lt j hj).1)
               clear hown4 hg4 hat4 hL4))
          | (go_at_call 28
             go_must (
               (refine (HCA.out w4 (.slice A4 L4 c4) (by rw [← HL4.out]; exact HO4.out) HB4.out).mono ?_)
               rintro e w5 ⟨A5, c5, rfl, ho5, hb5⟩
               obtain ⟨L5, hL5⟩ : ∃ L5, L5 = L + 1 + (itoaL x).length := ⟨_, rfl⟩
               rw [← hL5] at ho5 ⊢
               have HL5 := Lib.hid hL5
               have HO5 := Lib.hid ho5
               have HB5 := Lib.hid hb5
               clear hL5 ho5 hb5)))
        go_roundw
        case rel =>
          refine ⟨k + 1, L5, A5, c5, by omega, by go_num, by first | trivial | rfl, ?_, ?_, HB4.out.trans HB5.out⟩
          · rw [← P1.out hk0, HL5.out, hst.out.1, List.length_append, List.length_append]; rfl
          · rw [← P1.out hk0]; exact HO5.out
        case measure => simp [intOf]; omega
    · obtain rfl : k = m := by omega
      have dk : decide ((k : Int) < (k : Int)) = false := decide_eq_false (by omega)
      have hall : out.take k = out := by rw [HM.out, List.take_length]
      have hst2 : Hid (L = (91 :: jn out).length ∧ wr.ownsRow w1.heap.size 5 1 (.slice A' L c') L (bs (91 :: jn out)) ∧ Below w1.heap.size w1 wr) := by
        have := hst.out
        rw [hall] at this
        exact this
      clear hst hall hwo
      go_wp2_with (
        (at_builtin)
        go_must (
          refine wpList_append_any _ rfl (.tmp 39) (.tmp 40) 54 rfl w1.heap.size 5 i1 _ 1 1 Tryd.underlying54 hi1 hz10 hz11 hz12 rfl (by omega) (.slice A' L c') L _ rfl (hst2.out.2.1.alloc _) (wr.heap.size + 1) _ 1 1 (bs [93]) rfl (one_new _ _) (bs_one _) (by simp only [maxLen]; omega) (by omega) (by simp; omega) ?_
          intro v6 w6 hown6 hg6 hat6
          obtain ⟨A6, c6, rfl⟩ := own_formS hown6
          rw [← bs_append] at hown6
          have HR6 : Hid (Reads w6 w6.heap.size 1 A6 (L + 1) (bs (91 :: jn out ++ [93]))) := Reads.of_own hown6
          have HB6 : Hid (Below w1.heap.size w1 w6) := (hst2.out.2.2.alloc hqr _).grown hg6 (by simp; omega) (fun j hj => (hst2.out.2.1.lt j hj).1)
          obtain ⟨L6, hL6⟩ : ∃ L6, L6 = L + 1 := ⟨_, rfl⟩
          rw [← hL6] at HR6 ⊢
          have HL6 := Lib.hid hL6
          clear hown6 hg6 hat6 hL6))
      ((try simp only [Exit.inBlock, Exit.then]); refine bodyPost_ret (results_tmp2 rfl _ _ _) rfl ?_)
      have hl6 : L6 = (jn out ++ [93]).length + 1 := by
        rw [HL6.out, hst2.out.1]; simp
      exact ⟨out, A6, c6, HSO.out, by rw [← hl6]; rfl, by rw [← hl6]; exact HR6.out, HB1.out.trans (HB6.out.mono hq1)⟩

set_option maxHeartbeats 4000000 in
set_option maxRecDepth 100000 in
theorem jsonW (w : World) (Al : Option Addr) (cl N : Nat) (l : List Int) (hN : N = l.length) (hr : Reads w w.heap.size 1 Al N (l.map (Value.int .u32))) (hl : N ≤ 1000) (hwf : ∀ x ∈ l, 0 ≤ x ∧ x ≤ 4294967295) (ht : TabJ w) :
    Calls Tryd.prog 7 #[.slice Al N cl] w fun e w' => ∃ out, SetOf l out ∧ e = .returned (.string (strOfNums (91 :: (jn out ++ [93])))) ∧ Below w.heap.size w w' := by
  have HR := Lib.hid hr
  have HWF := Lib.hid hwf
  have HN := Lib.hid hN
  have HT := Lib.hid ht
  have hmm := @run_makeMap Tryd.prog
  clear hr hwf hN ht
  go_enter Tryd.func7, Tryd.ntmps7
  go_wp2
  go_loopw [11] (fun i wr => ∃ k : Nat, k ≤ N ∧ i = .int .i64 (k : Nat) ∧ w.heap.size < wr.heap.size ∧ Hid (∃ D : DataW Unit, wr.ownsMap Tryd.prog 24 unitElem w.heap.size k D ∧ KeysI .u32 D (l.take k)) ∧ Hid (Below w.heap.size w wr)) (fun i _ => N - (intOf i).toNat)
  case atStart =>
    exact ⟨0, Nat.zero_le _, rfl, by simp, ⟨_, World.ownsMap_made _ _ _ _, by rw [List.take_zero]; exact KeysI.nil _⟩, (Below.refl _ _).alloc (Nat.le_refl _) _⟩
  case round =>
    obtain ⟨k, hk, rfl, hsz, hst, hbl⟩ := hrel
    by_cases hlt : k < N
    · have hkm2 : decide ((k : Int) < (N : Int)) = true := decide_eq_true (by omega)
      obtain ⟨ad, hA, hadB, hkl, hcell0⟩ := HR.out.list hlt
      subst hA
      have hcell : wr.cell? (ad.add k) = some (.int .u32 (l.getD k 0)) := (hbl.out.cell (by rw [block_of_add]; exact hadB)).trans hcell0
      obtain ⟨x, hX⟩ : ∃ x, x = l.getD k 0 := ⟨_, rfl⟩
      have hx := HWF.out x (by rw [hX]; exact getD_memS l k hkl)
      rw [← hX] at hcell
      have HX := Lib.hid hX
      have hkey : keyOf Tryd.prog 24 (.int .u32 x) = some (.int .u32 x) := keyOf_int_mk Tryd.underlying24 (by simp [Lit.wf, IntKind.min, IntKind.max, IntKind.bits, IntKind.signed]; omega)
      have HKEY := Lib.hid hkey
      clear hcell0 hX hkey
      obtain ⟨D, hown, hD⟩ := hst.out
      have HOWN := Lib.hid hown
      have HD := Lib.hid hD
      clear hown hD
      go_wp2_with (first
        | (at_mapUpdate
           go_must (
             refine wpList_mapUpdate_own _ rfl _ _ _ 52 rfl 24 53 lawW Tryd.underlying52 (unitElem (H := Unit)) w.heap.size k D rfl HOWN.out (by unfold maxLen; omega) _ _ _ rfl rfl HKEY.out _ [] unitElem_mk ?_
             intro w1 hown1 hgrow1
             have HOWN1 := Lib.hid hown1
             have HG1 := Lib.hid hgrow1
             have hq1 := hgrow1.size
             clear hown1 hgrow1)))
      go_roundw
      case rel =>
        refine ⟨k + 1, by omega, by go_num, by omega, ⟨_, HOWN1.out, ?_⟩, hbl.out.grown HG1.out (by omega) (fun j hj => by cases hj; exact Nat.le_refl _)⟩
        rw [take_snocI l k hkl, ← HX.out]
        exact HD.out.put HOWN.out.isMap (HOWN.out.tidy lawW) x _
      case measure => simp [intOf]; omega
    · obtain rfl : k = N := by omega
      have hkm2 : decide ((k : Int) < (k : Int)) = false := decide_eq_false (by omega)
      obtain ⟨D, hown, hD⟩ := hst.out
      rw [HN.out, List.take_length] at hD
      have hcm := marshW wr w.heap.size k D l hown hD (by rw [← HN.out]; exact hl) HWF.out (HT.out.on hbl.out)
      have HCM := Lib.hid hcm
      clear hown hD hst hcm
      go_wp2_with (
        (go_at_call 20)
        go_must (
          (refine HCM.out.mono ?_)
          rintro e w2 ⟨out, A2, c2, hso, rfl, hr2, hb2⟩
          have hcv : ∀ q, (convert 54 9 (.slice A2 (91 :: (jn out ++ [93])).length c2)).run Tryd.prog (w2.drewN q) = .ok (.string (strOfNums (91 :: (jn out ++ [93])))) (w2.drewN q) := fun q => conv_reads (hr2.drewN q) _ _ _ Tryd.underlying54 Tryd.underlying5 Tryd.underlying9
          have hcv0 : (convert 54 9 (.slice A2 (91 :: (jn out ++ [93])).length c2)).run Tryd.prog w2 = .ok (.string (strOfNums (91 :: (jn out ++ [93])))) w2 := hcv 0
          obtain ⟨L2, hL2⟩ : ∃ L2, L2 = (91 :: (jn out ++ [93])).length := ⟨_, rfl⟩
          rw [← hL2] at hcv hcv0 ⊢
          obtain ⟨s2, hs2⟩ : ∃ s2, s2 = strOfNums (91 :: (jn out ++ [93])) := ⟨_, rfl⟩
          rw [← hs2] at hcv hcv0
          have HS2 := Lib.hid hs2
          have HSO := Lib.hid hso
          have HB2 := Lib.hid hb2
          clear hso hr2 hb2 hL2 hs2))
      go_ret
      exact ⟨out, HSO.out, by rw [← HS2.out]; first | rfl | simp, hbl.out.trans (HB2.out.mono (Nat.le_of_lt hsz))⟩

set_option maxHeartbeats 4000000 in
set_option maxRecDepth 100000 in
theorem marshY (w : World) (b n : Nat) (D : DataW Unit) (l : List Int) (hown : w.ownsMap Tryd.prog 36 unitElem b n D) (hD : KeysI .i8 D l) (hl : l.length ≤ 1000) (hwf : ∀ x ∈ l, -128 ≤ x ∧ x ≤ 127) (ht : TabJ w) :
    Calls Tryd.prog 23 #[.map (some b)] w fun e w' => ∃ out A c, SetOf l out ∧ e = .returned (.tuple #[.slice A (91 :: (jn out ++ [93])).length c, .nilIface]) ∧ Reads w' w'.heap.size 1 A (91 :: (jn out ++ [93])).length (bs (91 :: (jn out ++ [93]))) ∧ Below w.heap.size w w' := by
  have hs := sliceY w b n D l hown hD hl
  have HS := Lib.hid hs
  have HWF := Lib.hid hwf
  have HT := Lib.hid ht
  obtain ⟨i1, hi1, hz10, hz11, hz12⟩ := info_parts infoU8
  have qT : ∀ W : World, (binOp .eql 64 (.map (some b)) (.map none)).run Tryd.prog W = .ok (.bool false) W := fun W => run_eql_map_nil W _ _ _ (some b) Tryd.underlying64
  clear hs hwf ht hown hD
  go_enter Tryd.func23, Tryd.ntmps23
  go_wp2_with (first
    | (go_at_call 27
       go_must (
         (refine HS.out.mono ?_)
         rintro e w1 ⟨out, g1, c1, hso, rfl, hown1, hb1⟩
         obtain ⟨m, hm⟩ : ∃ m, m = out.length := ⟨_, rfl⟩
         rw [← hm] at hown1 ⊢
         have hm1 : m ≤ 1000 := by have := hso.2.2; omega
         have hw1 : IntKind.i64.wrap ((m : Int) * 10) = (m : Int) * 10 := by rw [IntKind.wrap_i64]; omega
         have hw2 : IntKind.i64.wrap (2 + (m : Int) * 10) = 2 + (m : Int) * 10 := by rw [IntKind.wrap_i64]; omega
         have HSO := Lib.hid hso
         have HM := Lib.hid hm
         have HR1 : Hid (Reads w1 w1.heap.size 1 (some ⟨g1, 0, none⟩) m (out.map (Value.int .i8))) := Reads.of_own hown1
         have HB1 := Lib.hid hb1
         have hq1 := hb1.size
         clear hown1 hso hm hb1))
    | (at_make
       go_must (
         refine wpList_make_own _ rfl _ _ 54 rfl w1.heap.size 5 i1 (.int .u8 0) 1 Tryd.underlying54 hi1 hz10 hz11 _ _ _ (2 + m * 10) rfl (by go_num) (by go_num) (by rw [hz12]; omega) (by simp only [maxLen]; omega) (by simp) ?_
         intro w2 hrow2 hg2
         have HO2 := Lib.hid hrow2
         have HB2 : Hid (Below w1.heap.size w1 w2) := (Below.refl _ _).grown hg2 (Nat.le_refl _) (fun j hj => by cases hj)
         clear hrow2 hg2))
    | (at_builtin
       go_must (
         refine wpList_append_any _ rfl (.tmp 19) (.tmp 20) 54 rfl w1.heap.size 5 i1 _ 1 1 Tryd.underlying54 hi1 hz10 hz11 hz12 rfl (by omega) _ 0 [] rfl (HO2.out.alloc _) (w2.heap.size + 1) _ 1 1 (bs [91]) rfl (one_new _ _) (bs_one _) (by simp only [maxLen]; omega) (by omega) (by have := HB2.out.size; simp; omega) ?_
         intro v3 w3 hown3 hg3 hat3
         obtain ⟨A3, c3, rfl⟩ := own_formS hown3
         have HO3 := Lib.hid hown3
         have HB3 : Hid (Below w1.heap.size w1 w3) := (HB2.out.alloc HB2.out.size _).grown hg3 (by have := HB2.out.size; simp; omega) (fun j hj => (HO2.out.lt j hj).1)
         clear hown3 hg3 hat3)))
  go_loopw [5, 24] (fun d i wr => ∃ (k L : Nat) (A' : Option Addr) (c' : Nat), k ≤ m ∧ i = .int .i64 (k : Nat) ∧ d = .slice A' L c' ∧ Hid (L = (91 :: jn (out.take k)).length ∧ wr.ownsRow w1.heap.size 5 1 (.slice A' L c') L (bs (91 :: jn (out.take k))) ∧ Below w1.heap.size w1 wr)) (fun _ i _ => m - (intOf i).toNat)
  case atStart => exact ⟨0, 1, A3, c3, Nat.zero_le _, rfl, rfl, rfl, HO3.out, HB3.out⟩
  case round =>
    obtain ⟨k, L, A', c', hk, rfl, rfl, hst⟩ := hrel
    have hwo : ∀ x ∈ out, -4294967296 ≤ x ∧ x ≤ 4294967295 := fun x hx => by
      have := HWF.out x ((HSO.out.2.1 x).1 hx); omega
    have hL1 : L ≤ 12001 := by rw [hst.out.1]; exact pre_len out k hwo (by omega)
    have hqr := hst.out.2.2.size
    by_cases hlt : k < m
    · have dk : decide ((k : Int) < (m : Int)) = true := decide_eq_true (by omega)
      obtain ⟨ad, hA, hadB, hkl, hcell0⟩ := HR1.out.list hlt
      cases hA
      have hcell1 : wr.cell? ((⟨g1, 0, none⟩ : Addr).add k) = some (.int .i8 (out.getD k 0)) := (hst.out.2.2.cell (by rw [block_of_add]; exact hadB)).trans hcell0
      have hcell : wr.cell? ⟨g1, k, none⟩ = some (.int .i8 (out.getD k 0)) := by rwa [add_lit, Nat.zero_add] at hcell1
      have hx0 := HWF.out _ ((HSO.out.2.1 _).1 (getD_memS out k hkl))
      have p0 := pre_zero out k hkl
      have p1 := pre_more out k hkl
      obtain ⟨x, hX⟩ : ∃ x, x = out.getD k 0 := ⟨_, rfl⟩
      rw [← hX] at hcell p0 p1 hx0
      have hxl := itoaL_len x (by omega) (by omega)
      obtain ⟨hxa, hxb⟩ := hx0
      have hw64 : IntKind.i64.wrap x = x := by rw [IntKind.wrap_i64]; omega
      have P0 := Lib.hid p0
      have P1 := Lib.hid p1
      clear hcell0 hcell1 hX p0 p1 hwo
      by_cases hk0 : k = 0
      · have dz : decide ((0 : Int) < (k : Int)) = false := decide_eq_false (by omega)
        have dz2 : decide (0 < k) = false := decide_eq_false (by omega)
        have dz3 : (0 < k) = False := eq_false (by omega)
        have hca := appendI wr w1.heap.size L x (by omega) (by omega) (.slice A' L c') (91 :: jn (out.take k)) hst.out.2.1 hqr (by omega) (HT.out.at_ (HB1.out.trans (hst.out.2.2.mono hq1)) hq1)
        have HCA := Lib.hid hca
        have HK0 := Lib.hid hk0
        clear hca hk0
        go_wp2_with (
          (go_at_call 34)
          go_must (
            (refine HCA.out.mono ?_)
            rintro e w5 ⟨A5, c5, rfl, ho5, hb5⟩
            obtain ⟨L5, hL5⟩ : ∃ L5, L5 = L + (itoaL x).length := ⟨_, rfl⟩
            rw [← hL5] at ho5 ⊢
            have HL5 := Lib.hid hL5
            have HO5 := Lib.hid ho5
            have HB5 := Lib.hid hb5
            clear hL5 ho5 hb5))
        go_roundw
        case rel =>
          refine ⟨k + 1, L5, A5, c5, by omega, by go_num, by first | trivial | rfl, ?_, ?_, hst.out.2.2.trans HB5.out⟩
          · rw [← P0.out HK0.out, HL5.out, hst.out.1, List.length_append]
          · rw [← P0.out HK0.out]; exact HO5.out
        case measure => simp [intOf]; omega
      · have dz : decide ((0 : Int) < (k : Int)) = true := decide_eq_true (by omega)
        have hcaf := fun (W : World) (v : Value) (h1 : W.ownsRow w1.heap.size 5 1 v (L + 1) (bs (91 :: jn (out.take k) ++ [44]))) (h2 : Below w1.heap.size w1 W) => appendI W w1.heap.size (L + 1) x (by omega) (by omega) v (91 :: jn (out.take k) ++ [44]) h1 h2.size (by omega) (HT.out.at_ (HB1.out.trans (h2.mono hq1)) hq1)
        have HCA := Lib.hid hcaf
        clear hcaf
        go_wp2_with (first
          | (at_builtin
             go_must (
               refine wpList_append_any _ rfl (.tmp 31) (.tmp 32) 54 rfl w1.heap.size 5 i1 _ 1 1 Tryd.underlying54 hi1 hz10 hz11 hz12 rfl (by omega) (.slice A' L c') L _ rfl (hst.out.2.1.alloc _) (wr.heap.size + 1) _ 1 1 (bs [44]) rfl (one_new _ _) (bs_one _) (by simp only [maxLen]; omega) (by omega) (by simp; omega) ?_
               intro v4 w4 hown4 hg4 hat4
               obtain ⟨A4, c4, rfl⟩ := own_formS hown4
               rw [← bs_append] at hown4
               obtain ⟨L4, hL4⟩ : ∃ L4, L4 = L + 1 := ⟨_, rfl⟩
               rw [← hL4] at hown4 ⊢
               have HL4 := Lib.hid hL4
               have HO4 := Lib.hid hown4
               have HB4 : Hid (Below w1.heap.size w1 w4) := (hst.out.2.2.alloc hqr _).grown hg4 (by simp; omega) (fun j hj => (hst.out.2.1.lt j hj).1)
               clear hown4 hg4 hat4 hL4))
          | (go_at_call 34
             go_must (
               (refine (HCA.out w4 (.slice A4 L4 c4) (by rw [← HL4.out]; exact HO4.out) HB4.out).mono ?_)
               rintro e w5 ⟨A5, c5, rfl, ho5, hb5⟩
               obtain ⟨L5, hL5⟩ : ∃ L5, L5 = L + 1 + (itoaL x).length := ⟨_, rfl⟩
               rw [← hL5] at ho5 ⊢
               have HL5 := Lib.hid hL5
               have HO5 := Lib.hid ho5
               have HB5 := Lib.hid hb5
               clear hL5 ho5 hb5)))
        go_roundw
        case rel =>
          refine ⟨k + 1, L5, A5, c5, by omega, by go_num, by first | trivial | rfl, ?_, ?_, HB4.out.trans HB5.out⟩
          · rw [← P1.out hk0, HL5.out, hst.out.1, List.length_append, List.length_append]; rfl
          · rw [← P1.out hk0]; exact HO5.out
        case measure => simp [intOf]; omega
    · obtain rfl : k = m := by omega
      have dk : decide ((k : Int) < (k : Int)) = false := decide_eq_false (by omega)
      have hall : out.take k = out := by rw [HM.out, List.take_length]
      have hst2 : Hid (L = (91 :: jn out).length ∧ wr.ownsRow w1.heap.size 5 1 (.slice A' L c') L (bs (91 :: jn out)) ∧ Below w1.heap.size w1 wr) := by
        have := hst.out
        rw [hall] at this
        exact this
      clear hst hall hwo
      go_wp2_with (
        (at_builtin)
        go_must (
          refine wpList_append_any _ rfl (.tmp 39) (.tmp 40) 54 rfl w1.heap.size 5 i1 _ 1 1 Tryd.underlying54 hi1 hz10 hz11 hz12 rfl (by omega) (.slice A' L c') L _ rfl (hst2.out.2.1.alloc _) (wr.heap.size + 1) _ 1 1 (bs [93]) rfl (one_new _ _) (bs_one _) (by simp only [maxLen]; omega) (by omega) (by simp; omega) ?_
          intro v6 w6 hown6 hg6 hat6
          obtain ⟨A6, c6, rfl⟩ := own_formS hown6
          rw [← bs_append] at hown6
          have HR6 : Hid (Reads w6 w6.heap.size 1 A6 (L + 1) (bs (91 :: jn out ++ [93]))) := Reads.of_own hown6
          have HB6 : Hid (Below w1.heap.size w1 w6) := (hst2.out.2.2.alloc hqr _).grown hg6 (by simp; omega) (fun j hj => (hst2.out.2.1.lt j hj).1)
          obtain ⟨L6, hL6⟩ : ∃ L6, L6 = L + 1 := ⟨_, rfl⟩
          rw [← hL6] at HR6 ⊢
          have HL6 := Lib.hid hL6
          clear hown6 hg6 hat6 hL6))
      ((try simp only [Exit.inBlock, Exit.then]); refine bodyPost_ret (results_tmp2 rfl _ _ _) rfl ?_)
      have hl6 : L6 = (jn out ++ [93]).length + 1 := by
        rw [HL6.out, hst2.out.1]; simp
      exact ⟨out, A6, c6, HSO.out, by rw [← hl6]; rfl, by rw [← hl6]; exact HR6.out, HB1.out.trans (HB6.out.mono hq1)⟩

set_option maxHeartbeats 4000000 in
set_option maxRecDepth 100000 in
theorem jsonY (w : World) (Al : Option Addr) (cl N : Nat) (l : List Int) (hN : N = l.length) (hr : Reads w w.heap.size 1 Al N (l.map (Value.int .i8))) (hl : N ≤ 1000) (hwf : ∀ x ∈ l, -128 ≤ x ∧ x ≤ 127) (ht : TabJ w) :
    Calls Tryd.prog 11 #[.slice Al N cl] w fun e w' => ∃ out, SetOf l out ∧ e = .returned (.string (strOfNums (91 :: (jn out ++ [93])))) ∧ Below w.heap.size w w' := by
  have HR := Lib.hid hr
  have HWF := Lib.hid hwf
  have HN := Lib.hid hN
  have HT := Lib.hid ht
  have hmm := @run_makeMap Tryd.prog
  clear hr hwf hN ht
  go_enter Tryd.func11, Tryd.ntmps11
  go_wp2
  go_loopw [11] (fun i wr => ∃ k : Nat, k ≤ N ∧ i = .int .i64 (k : Nat) ∧ w.heap.size < wr.heap.size ∧ Hid (∃ D : DataW Unit, wr.ownsMap Tryd.prog 36 unitElem w.heap.size k D ∧ KeysI .i8 D (l.take k)) ∧ Hid (Below w.heap.size w wr)) (fun i _ => N - (intOf i).toNat)
  case atStart =>
    exact ⟨0, Nat.zero_le _, rfl, by simp, ⟨_, World.ownsMap_made _ _ _ _, by rw [List.take_zero]; exact KeysI.nil _⟩, (Below.refl _ _).alloc (Nat.le_refl _) _⟩
  case round =>
    obtain ⟨k, hk, rfl, hsz, hst, hbl⟩ := hrel
    by_cases hlt : k < N
    · have hkm2 : decide ((k : Int) < (N : Int)) = true := decide_eq_true (by omega)
      obtain ⟨ad, hA, hadB, hkl, hcell0⟩ := HR.out.list hlt
      subst hA
      have hcell : wr.cell? (ad.add k) = some (.int .i8 (l.getD k 0)) := (hbl.out.cell (by rw [block_of_add]; exact hadB)).trans hcell0
      obtain ⟨x, hX⟩ : ∃ x, x = l.getD k 0 := ⟨_, rfl⟩
      have hx := HWF.out x (by rw [hX]; exact getD_memS l k hkl)
      rw [← hX] at hcell
      have HX := Lib.hid hX
      have hkey : keyOf Tryd.prog 36 (.int .i8 x) = some (.int .i8 x) := keyOf_int_mk Tryd.underlying36 (by simp [Lit.wf, IntKind.min, IntKind.max, IntKind.bits, IntKind.signed]; omega)
      have HKEY := Lib.hid hkey
      clear hcell0 hX hkey
      obtain ⟨D, hown, hD⟩ := hst.out
      have HOWN := Lib.hid hown
      have HD := Lib.hid hD
      clear hown hD
      go_wp2_with (first
        | (at_mapUpdate
           go_must (
             refine wpList_mapUpdate_own _ rfl _ _ _ 64 rfl 36 53 lawY Tryd.underlying64 (unitElem (H := Unit)) w.heap.size k D rfl HOWN.out (by unfold maxLen; omega) _ _ _ rfl rfl HKEY.out _ [] unitElem_mk ?_
             intro w1 hown1 hgrow1
             have HOWN1 := Lib.hid hown1
             have HG1 := Lib.hid hgrow1
             have hq1 := hgrow1.size
             clear hown1 hgrow1)))
      go_roundw
      case rel =>
        refine ⟨k + 1, by omega, by go_num, by omega, ⟨_, HOWN1.out, ?_⟩, hbl.out.grown HG1.out (by omega) (fun j hj => by cases hj; exact Nat.le_refl _)⟩
        rw [take_snocI l k hkl, ← HX.out]
        exact HD.out.put HOWN.out.isMap (HOWN.out.tidy lawY) x _
      case measure => simp [intOf]; omega
    · obtain rfl : k = N := by omega
      have hkm2 : decide ((k : Int) < (k : Int)) = false := decide_eq_false (by omega)
      obtain ⟨D, hown, hD⟩ := hst.out
      rw [HN.out, List.take_length] at hD
      have hcm := marshY wr w.heap.size k D l hown hD (by rw [← HN.out]; exact hl) HWF.out (HT.out.on hbl.out)
      have HCM := Lib.hid hcm
      clear hown hD hst hcm
      go_wp2_with (
        (go_at_call 23)
        go_must (
          (refine HCM.out.mono ?_)
          rintro e w2 ⟨out, A2, c2, hso, rfl, hr2, hb2⟩
          have hcv : ∀ q, (convert 54 9 (.slice A2 (91 :: (jn out ++ [93])).length c2)).run Tryd.prog (w2.drewN q) = .ok (.string (strOfNums (91 :: (jn out ++ [93])))) (w2.drewN q) := fun q => conv_reads (hr2.drewN q) _ _ _ Tryd.underlying54 Tryd.underlying5 Tryd.underlying9
          have hcv0 : (convert 54 9 (.slice A2 (91 :: (jn out ++ [93])).length c2)).run Tryd.prog w2 = .ok (.string (strOfNums (91 :: (jn out ++ [93])))) w2 := hcv 0
          obtain ⟨L2, hL2⟩ : ∃ L2, L2 = (91 :: (jn out ++ [93])).length := ⟨_, rfl⟩
          rw [← hL2] at hcv hcv0 ⊢
          obtain ⟨s2, hs2⟩ : ∃ s2, s2 = strOfNums (91 :: (jn out ++ [93])) := ⟨_, rfl⟩
          rw [← hs2] at hcv hcv0
          have HS2 := Lib.hid hs2
          have HSO := Lib.hid hso
          have HB2 := Lib.hid hb2
          clear hso hr2 hb2 hL2 hs2))
      go_ret
      exact ⟨out, HSO.out, by rw [← HS2.out]; first | rfl | simp, hbl.out.trans (HB2.out.mono (Nat.le_of_lt hsz))⟩
end Go.Proofs.YtikpmeedjdddoaaDoor
