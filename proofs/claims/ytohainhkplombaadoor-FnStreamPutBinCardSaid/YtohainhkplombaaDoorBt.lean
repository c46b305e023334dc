/- The law FnStreamPutBin: bytes that are written by a Writer stand one behind the other. PRINTED by wip/genbz.py. -/
import Derived.Test.YtohainhkplombaaDoorBz
import Derived.Test.YtohainhkplombaaDoorBo
import Derived.Test.YtohainhkplombaaDoorKt
namespace Go.Proofs.YtohainhkplombaaDoor
open Go.RowKit
set_option linter.unusedVariables false

/-- The cells of a text's value. -/
def c5T (k u : Int) (s : ByteArray) : List Value := [.int .i64 k, .int .u64 u, .string s, .int .i64 0, .slice none 0 0]
theorem c5T_one (k u : Int) (s : ByteArray) : ∀ v ∈ c5T k u s, v.oneCell' = true := by
  intro v hv
  simp only [c5T, List.mem_cons, List.not_mem_nil, or_false] at hv
  rcases hv with rfl | rfl | rfl | rfl | rfl <;> rfl
theorem reads_fiveT (w : World) (k u : Int) (s : ByteArray) (t : TypeId) : Reads (w.alloc (.cells #[.int .i64 k, .int .u64 u, .string s, .int .i64 0, .slice none 0 0] t)) (w.heap.size + 1) 5 (some ⟨w.heap.size, 0, none⟩) 1 (c5T k u s) := by
  refine ⟨rfl, fun _ => ⟨_, rfl, by simp, fun j v hv => ?_⟩⟩
  rw [add_lit, Nat.zero_add]
  exact ((Blk.new w t (c5T k u s)).cell j).trans hv
theorem flat5T_at (l : List (List Int)) (g : List Int → List Value) (hg : ∀ x, (g x).length = 5) : ∀ k, k < l.length → ∀ j, j < 5 → (l.flatMap g)[k * 5 + j]? = (g (l.getD k []))[j]? := by
  induction l with
  | nil => intro k hk; simp at hk
  | cons x xs ih =>
    intro k hk j hj
    rw [List.flatMap_cons]
    cases k with
    | zero => rw [List.getElem?_append_left (by rw [hg]; omega)]; simp
    | succ k =>
      rw [List.getElem?_append_right (by rw [hg]; omega), hg, show (k + 1) * 5 + j - 5 = k * 5 + j by omega, ih k (by simpa using hk) j hj]
      simp
theorem wantsT_own {w : World} {B c : Nat} {A : Option Addr} {l : List (List Int)} {wk wu : List Int → Int} {ws : List Int → ByteArray} (h : w.ownsRow B 31 5 (.slice A l.length c) l.length (l.flatMap fun x => c5T (wk x) (wu x) (ws x))) : WantsT w w.heap.size A l wk wu ws := fun h0 => by
  obtain ⟨g, cap, hv, _, hlt⟩ := h.form h0
  have hA : A = some ⟨g, 0, none⟩ := by injection hv
  subst hA
  refine ⟨g, rfl, hlt, fun k hk j u hu => ?_⟩
  have hj : j < 5 := by
    rcases Nat.lt_or_ge j 5 with h | h
    · exact h
    · rw [List.getElem?_eq_none (by simpa using h)] at hu; cases hu
  have := h.cells (g := g) rfl (k * 5 + j) u (by rw [flat5T_at l _ (fun _ => rfl) k hk j hj]; exact hu)
  rwa [add_lit, Nat.zero_add] at this
theorem wantsT_more {W : World} {B B' : Nat} {A : Option Addr} {l : List (List Int)} {wk wu : List Int → Int} {ws : List Int → ByteArray} (h : WantsT W B A l wk wu ws) (hB : B ≤ B') : WantsT W B' A l wk wu ws := fun h0 => by
  obtain ⟨g, hA, hg, hc⟩ := h h0
  exact ⟨g, hA, by omega, hc⟩

theorem flatT_take_succV (l : List (List Int)) (enc : List Int → List Value) (k : Nat) (h : k < l.length) : (l.take (k + 1)).flatMap enc = (l.take k).flatMap enc ++ enc (l.getD k []) := by
  rw [List.take_succ_eq_append_getElem h, List.flatMap_append, List.getD_eq_getElem?_getD, List.getElem?_eq_getElem h]
  simp
/-- Nothing is longer than the laws let in. -/
def fitsT (l : List (List Int)) : Bool := decide (l.length ≤ 2147483647) && l.all (fun r => decide (r.length ≤ 2147483647))

set_option maxHeartbeats 2000000 in
theorem zzFits2_calls (w : World) (B c : Nat) (A : Option Addr) (l : List (List Int)) (h : Reads w B 1 A l.length (strs l)) (hn : l.length ≤ 9223372036854775807) (hl : ∀ x ∈ l, x.length ≤ 9223372036854775807) :
    Calls Tryd.prog 4 #[.slice A l.length c] w fun e w' => e = .returned (.bool (fitsT l)) ∧ ∃ n, w' = w.drewN n := by
  have H := Lib.hid h
  have HL := Lib.hid hl
  clear h hl
  by_cases hz : 2147483647 < l.length
  · have hd : decide ((2147483647 : Int) < (l.length : Int)) = true := by simp; omega
    go_enter Tryd.func4, Tryd.ntmps4
    go_wp2
    go_ret
    exact ⟨by rw [show fitsT l = false by unfold fitsT; rw [show decide (l.length ≤ 2147483647) = false from decide_eq_false (by omega)]; rfl]; rfl, 0, rfl⟩
  have hd : decide ((2147483647 : Int) < (l.length : Int)) = false := by simp; omega
  go_enter Tryd.func4, Tryd.ntmps4
  go_wp2
  go_loopw [10] (fun i wr => ∃ k n, k ≤ l.length ∧ i = .int .i64 (k : Nat) ∧ wr = w.drewN n ∧ Hid (∀ r ∈ l.take k, r.length ≤ 2147483647)) (fun i _ => l.length - (intOf i).toNat)
  case atStart => exact ⟨0, 0, Nat.zero_le _, rfl, rfl, Lib.hid (fun r hr => by simp at hr)⟩
  case round =>
    obtain ⟨k, n, hk, rfl, rfl, hall⟩ := hrel
    by_cases hlt : k < l.length
    · obtain ⟨ad, hA, hadB, hcell0⟩ := H.out.str hlt
      subst hA
      have hcell : (w.drewN n).cell? (ad.add k) = some (.string (strOfNums (l.getD k []))) := hcell0
      have hs := strOfNums_size (l.getD k [])
      have hmem := getDT_mem hlt
      have hlr := HL.out _ hmem
      have HMEM := Lib.hid hmem
      have HTS : Hid (l.take (k + 1) = l.take k ++ [l.getD k []]) := by
        rw [List.take_succ_eq_append_getElem hlt, List.getD_eq_getElem?_getD, List.getElem?_eq_getElem hlt]; rfl
      clear hcell0 hmem
      generalize l.getD k [] = r at *
      generalize strOfNums r = S at *
      by_cases hr : 2147483647 < r.length
      · have hd2 : decide ((2147483647 : Int) < (r.length : Int)) = true := by simp; omega
        go_wp2
        go_ret
        refine ⟨?_, n, rfl⟩
        have : fitsT l = false := by
          unfold fitsT
          rw [Bool.and_eq_false_iff]
          right
          rw [List.all_eq_false]
          exact ⟨r, HMEM.out, by simp; omega⟩
        rw [this]
        rfl
      · have hd2 : decide ((2147483647 : Int) < (r.length : Int)) = false := by simp; omega
        go_wp2
        go_roundw
        case rel => exact ⟨k + 1, _, by omega, by go_num, rfl, Lib.hid (fun x hx => by
          rw [HTS.out, List.mem_append] at hx
          rcases hx with hx | hx
          · exact hall.out x hx
          · obtain rfl : x = r := by simpa using hx
            omega)⟩
        case measure => simp [intOf]; omega
    · obtain rfl : k = l.length := by omega
      go_wp2
      go_ret
      refine ⟨?_, n, rfl⟩
      have : fitsT l = true := by
        unfold fitsT
        rw [Bool.and_eq_true]
        refine ⟨decide_eq_true (by omega), ?_⟩
        rw [List.all_eq_true]
        intro x hx
        exact decide_eq_true (hall.out x (by rw [List.take_length]; exact hx))
      rw [this]
      rfl

set_option maxHeartbeats 4000000 in
set_option maxRecDepth 100000 in
theorem FnStreamPutBin_walk (w : World) (A : Option Addr) (c : Nat) (b : Int) (l : List (List Int)) (h : Reads w w.heap.size 1 A l.length (strs l)) (hlm : l.length ≤ 9223372036854775807) (hl : ∀ x ∈ l, IsB x) (hll : ∀ x ∈ l, x.length ≤ 9223372036854775807) :
    Calls Tryd.prog 3 #[.int .i64 b, .slice A l.length c] w fun e w' => e = .returned (.bool true) ∧ Below w.heap.size w w' := by
  have H := Lib.hid h
  have HL := Lib.hid hl
  have HLM := Lib.hid hll
  clear h hl hll
  cases hfit : fitsT l with
  | false =>
    go_enter Tryd.func3, Tryd.ntmps3
    go_wp2_with (
      (go_at_call 4
       go_must (
         (refine (zzFits2_calls w _ c A l H.out hlm HLM.out).mono ?_)
         rw [hfit]
         rintro e w' ⟨rfl, nz, rfl⟩)))
    go_ret
    exact ⟨rfl, below_drewN (Below.refl _ _) _⟩
  | true =>
    by_cases hb : b < 18 ∨ 65536 < b
    · have HB := Lib.hid hb
      clear hb
      go_enter Tryd.func3, Tryd.ntmps3
      go_wp2_with (first
        | (go_at_call 4
           go_must (
             (refine (zzFits2_calls w _ c A l H.out hlm HLM.out).mono ?_)
             rw [hfit]
             rintro e w' ⟨rfl, nz, rfl⟩))
        | (go_at_call 5
           go_must (
             (refine (StreamPutBin_awake _ _ (by simpa using reads_one (w.drewN nz) (.string ⟨#[97]⟩) 9)).mono ?_)
             rintro e w1 ⟨A1, c1, rfl, hr1, hc1, hm1, hbel1⟩
             have HBEL1 : Hid (Below w.heap.size w w1) := ((below_drewN (Below.refl _ w) nz).alloc (Nat.le_refl _) _).trans (hbel1.mono (by simp))
             clear hr1 hbel1))
        | (go_at_call 6
           go_must (
             (refine (buffers_no _ b HB.out).mono ?_)
             rintro e w' ⟨rfl, rfl⟩)))
      go_ret
      exact ⟨rfl, HBEL1.out⟩
    have hb0 : 18 ≤ b := by omega
    have hb1 : b ≤ 65536 := by omega
    clear hb
    by_cases hn : 100 < l.length
    · have hd2 : decide ((100 : Int) < (l.length : Int)) = true := by simp; omega
      go_enter Tryd.func3, Tryd.ntmps3
      go_wp2_with (first
        | (go_at_call 4
           go_must (
             (refine (zzFits2_calls w _ c A l H.out hlm HLM.out).mono ?_)
             rw [hfit]
             rintro e w' ⟨rfl, nz, rfl⟩))
        | (go_at_call 5
           go_must (
             (refine (StreamPutBin_awake _ _ (by simpa using reads_one (w.drewN nz) (.string ⟨#[97]⟩) 9)).mono ?_)
             rintro e w1 ⟨A1, c1, rfl, hr1, hc1, hm1, hbel1⟩
             have HBEL1 : Hid (Below w.heap.size w w1) := ((below_drewN (Below.refl _ w) nz).alloc (Nat.le_refl _) _).trans (hbel1.mono (by simp))
             clear hr1 hbel1))
        | (go_at_call 6
           go_must (
             (refine (buffers_yes _ b hb0 hb1).mono ?_)
             rintro e w' ⟨rfl, rfl⟩)))
      go_ret
      exact ⟨rfl, HBEL1.out⟩
    have hd2 : decide ((100 : Int) < (l.length : Int)) = false := by simp; omega
    obtain ⟨i0, hi0, hz0, hz1, hz2⟩ := info_parts infoPack
    go_enter Tryd.func3, Tryd.ntmps3
    go_wp2_with (
      first
        | (go_at_call 4
           go_must (
             (refine (zzFits2_calls w _ c A l H.out hlm HLM.out).mono ?_)
             rw [hfit]
             rintro e w' ⟨rfl, nz, rfl⟩))
        | (go_at_call 5
           go_must (
             (refine (StreamPutBin_awake _ _ (by simpa using reads_one (w.drewN nz) (.string ⟨#[97]⟩) 9)).mono ?_)
             rintro e w1 ⟨A1, c1, rfl, hr1, hc1, hm1, hbel1⟩
             have HBEL1 : Hid (Below w.heap.size w w1) := ((below_drewN (Below.refl _ w) nz).alloc (Nat.le_refl _) _).trans (hbel1.mono (by simp))
             clear hr1 hbel1))
        | (go_at_call 6
           go_must (
             (refine (buffers_yes _ b hb0 hb1).mono ?_)
             rintro e w' ⟨rfl, rfl⟩)))
    go_loopw [8, 38] (fun d i wr => ∃ k A' c', k ≤ l.length ∧ i = .int .i64 (k : Nat) ∧ d = .slice A' k c' ∧ Hid ((∀ x ∈ l.take k, x.length ≤ 65536) ∧ wr.ownsRow w.heap.size 31 5 (.slice A' k c') k ((l.take k).flatMap fun x => c5T 7 0 (strOfNums x)) ∧ Below w.heap.size w wr)) (fun _ i _ => l.length - (intOf i).toNat)
    case atStart => exact ⟨0, none, 0, Nat.zero_le _, rfl, rfl, ⟨fun x hx => by simp at hx, ⟨by simp, .inl ⟨rfl, rfl⟩⟩, HBEL1.out⟩⟩
    case round =>
      obtain ⟨k, A', c', hk, rfl, rfl, hrest⟩ := hrel
      by_cases hlt : k < l.length
      · obtain ⟨ad, hA, hadB, hcell0⟩ := H.out.str hlt
        subst hA
        have hcell : wr.cell? (ad.add k) = some (.string (strOfNums (l.getD k []))) := (hrest.out.2.2.cell (by rw [block_of_add]; exact hadB)).trans hcell0
        have hs := strOfNums_size (l.getD k [])
        have hlr := HLM.out _ (getDT_mem hlt)
        have HTS : Hid (l.take (k + 1) = l.take k ++ [l.getD k []]) := by
          rw [List.take_succ_eq_append_getElem hlt, List.getD_eq_getElem?_getD, List.getElem?_eq_getElem hlt]; rfl
        have HSN := Lib.hid (flatT_take_succV l (fun x => c5T 7 0 (strOfNums x)) k hlt)
        clear hcell0
        generalize l.getD k [] = r at *
        obtain ⟨S, hS⟩ : ∃ S, S = strOfNums r := ⟨_, rfl⟩
        rw [← hS] at hcell hs
        have HS := Lib.hid hS
        clear hS
        have hwz : w.heap.size ≤ wr.heap.size := hrest.out.2.2.size
        by_cases hr : 65536 < r.length
        · have hd3 : decide ((65536 : Int) < (r.length : Int)) = true := by simp; omega
          go_wp2
          go_ret
          exact ⟨rfl, hrest.out.2.2⟩
        · have hd3 : decide ((65536 : Int) < (r.length : Int)) = false := by simp; omega
          go_wp2_with (
            (at_builtin)
            go_must (
              (refine wpList_append_any _ rfl (.tmp 46) (.tmp 49) 28 rfl w.heap.size 31 i0 _ 5 64 Tryd.underlying28 hi0 hz0 hz1 hz2 rfl (by omega) (.slice A' k c') k _ rfl (hrest.out.2.1.alloc _) (wr.heap.size + 1) _ 1 1 (c5T 7 0 S) rfl (reads_fiveT _ _ _ _ _) (c5T_one _ _ _) (by simp only [maxLen]; omega) (by omega) (by simp; omega) ?_)
              intro v1 w1' hown1 hg1 hat1
              obtain ⟨A1', c1', rfl, _, _⟩ := own_form5 hown1
              have HO1 := Lib.hid hown1
              have HG1 := Lib.hid hg1
              clear hown1 hg1 hat1))
          go_roundw
          case rel =>
            refine ⟨k + 1, A1', c1', by omega, by go_num, rfl, fun x hx => ?_, ?_, ?_⟩
            · rw [HTS.out, List.mem_append] at hx
              rcases hx with hx | hx
              · exact hrest.out.1 x hx
              · obtain rfl : x = r := by simpa using hx
                omega
            · rw [HSN.out, ← HS.out]; exact HO1.out
            · exact (hrest.out.2.2.alloc hwz _).grown HG1.out (by simp; omega) (fun j hj => (hrest.out.2.1.lt j hj).1)
          case measure => simp [intOf]; omega
      · obtain rfl : k = l.length := by omega
        have hall : ∀ x ∈ l, IsB x ∧ x.length ≤ 65536 := fun x hx => ⟨HL.out x hx, hrest.out.1 x (by rw [List.take_length]; exact hx)⟩
        have HALL := Lib.hid hall
        have HOW := Lib.hid hrest.out.2.1
        have HBR := Lib.hid hrest.out.2.2
        clear hrest hall
        go_wp2_with (first
          | (go_at_call 5
             go_must (
               (refine (StreamPutBin_calls wr A c b l ((H.out.below HBR.out).more HBR.out.size) hb0 hb1 HALL.out (by omega)).mono ?_)
               rintro e w2 ⟨A2, c2, rfl, hr2, hc2, hm2, hbel2⟩
               obtain ⟨N2, hN2⟩ : ∃ N2, N2 = (l.flatMap encT).length := ⟨_, rfl⟩
               rw [← hN2]
               have HN2 := Lib.hid hN2
               have HR2 := Lib.hid hr2
               have HC2 := Lib.hid hc2
               have HBEL2 := Lib.hid hbel2
               clear hr2 hc2 hbel2 hN2))
          | (go_at_call 7
             go_must (
               (have hw := (wantsT_own (wk := fun _ => 7) (wu := fun _ => 0) (ws := strOfNums) (by have := HOW.out; rw [List.take_length] at this; exact this)).below HBEL2.out)
               have hio := inOrderT_calls w2 w2.heap.size c2 c' A2 A' l encT (fun _ => 7) (fun _ => 0) (fun _ => 7) (fun _ => 0) strOfNums HR2.out (Nat.le_refl _) HC2.out hm2 (wantsT_more hw HBEL2.out.size) (by omega) (fun x hx => isB_encT (HALL.out x hx).1) (fun x hx rest hrest W A c h1 h2 h3 h4 => take_binR x (HALL.out x hx).1 (by have := (HALL.out x hx).2; omega) rest hrest W _ c A h1 h2 h3 h4) (fun x hx W => SamePack_plain W 7 0 0 (strOfNums x) (by decide))
               rw [← HN2.out] at hio
               refine hio.mono ?_
               rintro e w3 ⟨rfl, hbel3⟩
               have HBEL3 := Lib.hid hbel3
               clear hbel3)))
        go_ret
        have z1 := HBR.out.size
        have z2 := HBEL2.out.size
        exact ⟨rfl, (HBR.out.trans (HBEL2.out.mono z1)).trans (HBEL3.out.mono (by omega))⟩
end Go.Proofs.YtohainhkplombaaDoor
