/- laws.digitsOf, signed, jsonList: the texts of numbers, a list of JSON. PRINTED by wip/genjp.py. -/
import Derived.Test.YtikpmeedjdddoaaDoorJl
import Derived.Test.YtikpmeedjdddoaaDoorJb
import Derived.Laws.Concat
namespace Go.Proofs.YtikpmeedjdddoaaDoor
open Go.RowKit
set_option linter.unusedVariables false

set_option maxHeartbeats 2000000 in
set_option maxRecDepth 100000 in
theorem digitsOf_calls (w : World) (u : Nat) (hu : u ≤ 4294967295) : Calls Tryd.prog 14 #[.int .u64 u] w fun e w' => e = .returned (.string (strOfNums (digs u))) ∧ Below w.heap.size w w' := by
  by_cases h0 : u = 0
  · subst h0
    have e0 : strOfNums (digs 0) = ⟨#[48]⟩ := by rw [digs_small (by omega)]; rfl
    rw [e0]
    go_enter Tryd.func14, Tryd.ntmps14
    go_wp2
    go_ret
    exact ⟨rfl, Below.refl _ _⟩
  · have d0 : ((u : Int) == 0) = false := by rw [beq_eq_false_iff_ne]; omega
    have d0n : (u == 0) = false := by rw [beq_eq_false_iff_ne]; omega
    have hnil : strOfNums [] = ⟨#[]⟩ := rfl
    have HNIL := Lib.hid hnil
    obtain ⟨U, hU⟩ : ∃ U, U = u := ⟨_, rfl⟩
    have HU := Lib.hid hU
    clear hnil hU
    go_enter Tryd.func14, Tryd.ntmps14
    go_wp2
    go_loopw [0, 3] (fun v s wr => ∃ (m : Nat) (r : List Int), m ≤ 4294967295 ∧ v = .int .u64 m ∧ Hid (s = .string (strOfNums r) ∧ r.length ≤ 100 ∧ (digs U = (if m = 0 then [] else digs m) ++ r)) ∧ Hid (Below w.heap.size w wr)) (fun v _ _ => (intOf v).toNat)
    case atStart => exact ⟨u, [], hu, rfl, ⟨by rw [HNIL.out], by simp, by rw [if_neg h0, List.append_nil, HU.out]⟩, Below.refl _ _⟩
    case round =>
      obtain ⟨m, r, hm, rfl, hr, hbl⟩ := hrel
      obtain ⟨hs, hl, hd⟩ := hr.out
      subst hs
      clear hr
      by_cases hm0 : m = 0
      · have hd2 : digs U = r := by rw [hd, if_pos hm0, List.nil_append]
        have dz : decide ((0 : Int) < (m : Int)) = false := decide_eq_false (by omega)
        have dzn : decide (0 < m) = false := decide_eq_false (by omega)
        have dz3 : (0 < m) = False := eq_false (by omega)
        have HD2 := Lib.hid hd2
        clear hm0 hd hd2
        go_wp2
        go_ret
        exact ⟨(congrArg (fun t => Ending.returned (Value.string (strOfNums t))) (HD2.out.symm.trans (congrArg digs HU.out)) : _), hbl.out⟩
      · have dz : decide ((0 : Int) < (m : Int)) = true := decide_eq_true (by omega)
        have dzn : decide (0 < m) = true := decide_eq_true (by omega)
        rw [if_neg hm0] at hd
        obtain ⟨mr, hmr⟩ : ∃ mr : Nat, mr = m % 10 := ⟨_, rfl⟩
        obtain ⟨md, hmd⟩ : ∃ md : Nat, md = m / 10 := ⟨_, rfl⟩
        obtain ⟨dg, hdg⟩ : ∃ dg : Int, dg = 48 + (mr : Int) := ⟨_, rfl⟩
        have hdg0 : 48 ≤ dg := by omega
        have hdg9 : dg ≤ 57 := by omega
        have w1 : (m : Int).tmod 10 = (mr : Int) := by rw [Int.tmod_eq_emod_of_nonneg (by omega)]; omega
        have w1' : (m : Int) % 10 = (mr : Int) := by omega
        have w2 : IntKind.u64.wrap (48 + (mr : Int)) = dg := by rw [IntKind.wrap_u64, hdg]; omega
        have w3 : IntKind.u8.wrap dg = dg := by rw [IntKind.wrap_u8]; omega
        have hq : (m : Int) / 10 = (md : Int) := by omega
        have hq2 : (m : Int).tdiv 10 = (md : Int) := by rw [Int.tdiv_eq_ediv_of_nonneg (by omega)]; omega
        have hcv := conv_reads (P := Tryd.prog) (one_new wr dg) 54 5 9 Tryd.underlying54 Tryd.underlying5 Tryd.underlying9 (c := 1)
        have hstep : digs U = (if md = 0 then [] else digs md) ++ (dg :: r) := by
          rw [hd]
          by_cases h10 : m < 10
          · rw [if_pos (by omega), digs_small h10, hdg, show mr = m by omega]; rfl
          · rw [if_neg (by omega), digs_step h10, hdg, hmd, hmr]; simp
        have hrl : (dg :: r).length ≤ 100 := by
          have h1 := congrArg List.length hstep
          rw [List.length_append] at h1
          have h2 := itoaL_len (U : Int) (by omega) (by have := HU.out; omega)
          have h3 : itoaL (U : Int) = digs U := by unfold itoaL; rw [if_neg (by omega)]; rfl
          rw [h3] at h2
          have h4 : (dg :: r).length ≤ (digs U).length := by rw [h1]; exact Nat.le_add_left _ _
          exact Nat.le_trans h4 (Nat.le_trans h2 (by decide))
        have HLEN := Lib.hid hrl
        clear hrl
        obtain ⟨s1, hs1⟩ : ∃ s1, s1 = strOfNums r := ⟨_, rfl⟩
        obtain ⟨s2, hs2⟩ : ∃ s2, s2 = strOfNums [dg] := ⟨_, rfl⟩
        rw [← hs2] at hcv
        rw [← hs1]
        have hz1 : s1.size ≤ 100 := by rw [hs1, strNums_size]; exact hl
        have hz2 : s2.size ≤ 1 := by rw [hs2, strNums_size]; exact Nat.le_refl 1
        have HS3 : Hid (s2 ++ s1 = strOfNums (dg :: r)) := (show s2 ++ s1 = strOfNums (dg :: r) by rw [hs1, hs2, strNums_append]; rfl)
        have HSTEP := Lib.hid hstep
        have hmdlt : md < m := by omega
        clear hs1 hs2 hd hstep hdg hmr hmd hm0
        go_wp2
        go_roundw
        case rel => exact ⟨md, dg :: r, by omega, rfl, ⟨by rw [HS3.out], HLEN.out, HSTEP.out⟩, hbl.out.alloc hbl.out.size _⟩
        case measure => simp [intOf]; omega
theorem signed_calls (w : World) (x : Int) (h0 : -4294967295 ≤ x) (h1 : x ≤ 4294967295) : Calls Tryd.prog 18 #[.int .i64 x] w fun e w' => e = .returned (.string (strOfNums (itoaL x))) ∧ Below w.heap.size w w' := by
  by_cases hx : x < 0
  · have d0 : decide (x < 0) = true := decide_eq_true hx
    have hw1 : IntKind.u64.wrap x = x + 18446744073709551616 := by rw [IntKind.wrap_u64]; omega
    have hw2 : IntKind.u64.wrap (-(x + 18446744073709551616)) = ((x.natAbs : Nat) : Int) := by rw [IntKind.wrap_u64]; omega
    have hd := digitsOf_calls w x.natAbs (by omega)
    have hsz : (strOfNums (digs x.natAbs)).size ≤ 100 := by rw [strNums_size]; have := itoaL_len x (by omega) h1; unfold itoaL at this; rw [if_pos hx] at this; simp at this; omega
    have he : itoaL x = [45] ++ digs x.natAbs := by unfold itoaL; rw [if_pos hx]; rfl
    have e1 : strOfNums [45] = ⟨#[45]⟩ := rfl
    rw [he, ← strNums_append, e1]
    obtain ⟨s, hs⟩ : ∃ s, s = strOfNums (digs x.natAbs) := ⟨_, rfl⟩
    rw [← hs] at hd hsz ⊢
    have HD := Lib.hid hd
    obtain ⟨N, hN⟩ : ∃ N : Nat, N = x.natAbs := ⟨_, rfl⟩
    rw [← hN] at hw2 HD
    have HW1 := Lib.hid hw1
    have HW2 : Hid (IntKind.u64.wrap (-(IntKind.u64.wrap x)) = (N : Int)) := by rw [HW1.out]; exact hw2
    have hw3 := HW2.out
    clear hd hs hN he hw1 hw2 h0 h1
    go_enter Tryd.func18, Tryd.ntmps18
    go_wp2_with (
      (go_at_call 14)
      go_must (
        (refine HD.out.mono ?_)
        rintro e w1 ⟨rfl, hb1⟩
        have HB1 := Lib.hid hb1
        clear hb1))
    go_ret
    exact ⟨rfl, HB1.out⟩
  · have d0 : decide (x < 0) = false := decide_eq_false hx
    have hw1 : IntKind.u64.wrap x = x := by rw [IntKind.wrap_u64]; omega
    have hd := digitsOf_calls w x.toNat (by omega)
    have he : itoaL x = digs x.toNat := by unfold itoaL; rw [if_neg hx]
    rw [show ((x.toNat : Nat) : Int) = x by omega] at hd
    rw [he]
    obtain ⟨s, hs⟩ : ∃ s, s = strOfNums (digs x.toNat) := ⟨_, rfl⟩
    rw [← hs] at hd ⊢
    have HD := Lib.hid hd
    clear hd hs he h0 h1
    go_enter Tryd.func18, Tryd.ntmps18
    go_wp2_with (
      (go_at_call 14)
      go_must (
        (refine HD.out.mono ?_)
        rintro e w1 ⟨rfl, hb1⟩
        have HB1 := Lib.hid hb1
        clear hb1))
    go_ret
    exact ⟨rfl, HB1.out⟩

/-- What jsonList has written behind k numbers. -/
def preB (z : Bool) (l : List Int) (k : Nat) : List Int := 91 :: jg (itB z) (l.take k)
theorem preB_step (z : Bool) (l : List Int) (k : Nat) (h : k < l.length) : preB z l (k + 1) = (preB z l k ++ (if k = 0 then [] else [44])) ++ (bl z ++ itoaL (l.getD k 0)) := by
  have e : l.take (k + 1) = l.take k ++ [l.getD k 0] := by
    rw [List.take_add_one, List.getElem?_eq_getElem h, List.getD, List.getElem?_eq_getElem h]; rfl
  unfold preB
  rw [e, jg_snoc]
  by_cases h0 : k = 0
  · subst h0; simp [jg, itB]
  · rw [if_neg (take_neJ (by omega) (by omega)), if_neg h0]
    simp [itB]
theorem jgB_len (z : Bool) (l : List Int) (h : ∀ x ∈ l, -4294967296 ≤ x ∧ x ≤ 4294967295) : (jg (itB z) l).length ≤ 13 * l.length := by
  have hi : ∀ x ∈ l, (itB z x).length ≤ 12 := fun x hx => by
    have := itoaL_len x (h x hx).1 (h x hx).2
    unfold itB bl
    split <;> simp <;> omega
  induction l with
  | nil => simp [jg]
  | cons x r ih =>
    have h1 := hi x (List.mem_cons_self ..)
    cases r with
    | nil => simp [jg]; omega
    | cons y r =>
      have := ih (fun z hz => h z (List.mem_cons_of_mem _ hz)) (fun z hz => hi z (List.mem_cons_of_mem _ hz))
      simp only [jg, List.length_append, List.length_cons] at this ⊢
      omega

set_option maxHeartbeats 4000000 in
set_option maxRecDepth 100000 in
theorem jsonList_calls (w : World) (A : Option Addr) (c N : Nat) (z : Bool) (l : List Int) (hN : N = l.length) (hN1 : N ≤ 1000) (hwf : ∀ x ∈ l, -4294967296 ≤ x ∧ x ≤ 4294967295) (h : Reads w w.heap.size 1 A N (l.map fun x => Value.string (strOfNums (itoaL x)))) :
    Calls Tryd.prog 15 #[.slice A N c, .bool z] w fun e w' => e = .returned (.string (strOfNums (91 :: (jg (itB z) l ++ [93])))) ∧ w' = w := by
  have H := Lib.hid h
  have HN := Lib.hid hN
  have HWF := Lib.hid hwf
  have HE0 : Hid (strOfNums [91] = ⟨#[91]⟩) := rfl
  have hcomma : strOfNums [44] = ⟨#[44]⟩ := rfl
  have hblank : strOfNums [32] = ⟨#[32]⟩ := rfl
  have hclose : strOfNums [93] = ⟨#[93]⟩ := rfl
  have HCO := Lib.hid hcomma
  have HBK := Lib.hid hblank
  have HCL := Lib.hid hclose
  clear h hN hwf hcomma hblank hclose
  go_enter Tryd.func15, Tryd.ntmps15
  go_wp2
  go_loopw [5, 10] (fun s i wr => ∃ k : Nat, k ≤ N ∧ i = .int .i64 k ∧ Hid (s = .string (strOfNums (preB z l k))) ∧ wr = w) (fun _ i _ => N - (intOf i).toNat)
  case atStart => exact ⟨0, Nat.zero_le _, rfl, by rw [show preB z l 0 = [91] from rfl, HE0.out]; rfl, rfl⟩
  case round =>
    obtain ⟨k, hk, rfl, hs, rfl⟩ := hrel
    have hs' := hs.out
    subst hs'
    clear hs
    by_cases hkN : k = N
    · subst hkN
      have dz : decide ((k : Int) < (k : Int)) = false := decide_eq_false (by omega)
      have dzn : (k < k) = False := eq_false (by omega)
      have hfin : strOfNums (preB z l k) ++ ⟨#[93]⟩ = strOfNums (91 :: (jg (itB z) l ++ [93])) := by
        rw [← HCL.out, strNums_append, preB, List.take_of_length_le (by have := HN.out; omega)]; rfl
      have hsz : (strOfNums (preB z l k)).size ≤ 20000 := by
        rw [strNums_size]; unfold preB
        have h1 := jgB_len z (l.take k) (fun x hx => HWF.out x (List.mem_of_mem_take hx))
        have h2 := List.length_take_le k l
        rw [List.length_cons]; omega
      obtain ⟨s, hs⟩ : ∃ s, s = strOfNums (preB z l k) := ⟨_, rfl⟩
      rw [← hs] at hfin hsz ⊢
      have HF := Lib.hid hfin
      clear hs hfin
      go_wp2
      go_ret
      exact ⟨congrArg (fun t => Ending.returned (Value.string t)) HF.out, rfl⟩
    · have hkl : k < N := by omega
      have dz : decide ((k : Int) < (N : Int)) = true := decide_eq_true (by omega)
      have dzn : (k < N) = True := eq_true hkl
      obtain ⟨ad, uu, hA, _, huu, hlook⟩ := H.out.at_ hkl
      have hcl : k < l.length := by have := HN.out; omega
      have hx : uu = .string (strOfNums (itoaL (l.getD k 0))) := by
        rw [List.getElem?_map, List.getElem?_eq_getElem hcl] at huu
        rw [List.getD_eq_getElem?_getD, List.getElem?_eq_getElem hcl]
        exact (Option.some.inj huu).symm
      rw [hx] at hlook
      clear huu
      subst hA
      have hw := HWF.out _ (List.getElem_mem (h := hcl))
      have hw2 : l[k] = l.getD k 0 := by rw [List.getD, List.getElem?_eq_getElem hcl]; rfl
      rw [hw2] at hw
      have hi := itoaL_len _ hw.1 hw.2
      have hsz2 : (strOfNums (itoaL (l.getD k 0))).size ≤ 11 := by rw [strNums_size]; exact hi
      have hstep := preB_step z l k hcl
      have hsz : (strOfNums (preB z l k)).size ≤ 20000 := by
        rw [strNums_size]; unfold preB
        have h1 := jgB_len z (l.take k) (fun x hx => HWF.out x (List.mem_of_mem_take hx))
        have h2 := List.length_take_le k l
        rw [List.length_cons]; omega
      have hnx : strOfNums (preB z l (k + 1)) = (strOfNums (preB z l k) ++ strOfNums (if k = 0 then [] else [44])) ++ (strOfNums (bl z) ++ strOfNums (itoaL (l.getD k 0))) := by
        rw [hstep, strNums_append, strNums_append, strNums_append]
      obtain ⟨s, hs⟩ : ∃ s, s = strOfNums (preB z l k) := ⟨_, rfl⟩
      obtain ⟨e, he⟩ : ∃ e, e = strOfNums (itoaL (l.getD k 0)) := ⟨_, rfl⟩
      rw [← hs] at hsz hnx ⊢
      rw [← he] at hsz2 hlook hnx
      clear hs he hstep hi hw hw2 hx hkN
      have hnil : strOfNums [] = ByteArray.empty := rfl
      by_cases hk0 : k = 0
      · have d0 : decide ((0 : Int) < (k : Int)) = false := decide_eq_false (by omega)
        have d0n : decide (0 < k) = false := decide_eq_false (by omega)
        rw [if_pos hk0, hnil, ByteArray.append_empty] at hnx
        cases z
        case pos.false =>
          rw [show bl false = [] from rfl, hnil, ByteArray.empty_append] at hnx
          have HNX := Lib.hid hnx
          clear hnx hnil hk0 hcl
          go_wp2
          go_roundw
          case rel => exact ⟨k + 1, by omega, by simp, (show _ = _ by rw [HNX.out]), by trivial⟩
          case measure => simp [intOf]; omega
        case pos.true =>
          rw [show bl true = [32] from rfl, HBK.out, ← ByteArray.append_assoc] at hnx
          have HNX := Lib.hid hnx
          clear hnx hnil hk0 hcl
          go_wp2
          go_roundw
          case rel => exact ⟨k + 1, by omega, by simp, (show _ = _ by rw [HNX.out]), by trivial⟩
          case measure => simp [intOf]; omega
      · have d0 : decide ((0 : Int) < (k : Int)) = true := decide_eq_true (by omega)
        have d0n : decide (0 < k) = true := decide_eq_true (by omega)
        rw [if_neg hk0, HCO.out] at hnx
        cases z
        case neg.false =>
          rw [show bl false = [] from rfl, hnil, ByteArray.empty_append] at hnx
          have HNX := Lib.hid hnx
          clear hnx hnil hk0 hcl
          go_wp2
          go_roundw
          case rel => exact ⟨k + 1, by omega, by simp, (show _ = _ by rw [HNX.out]), by trivial⟩
          case measure => simp [intOf]; omega
        case neg.true =>
          rw [show bl true = [32] from rfl, HBK.out, ← ByteArray.append_assoc] at hnx
          have HNX := Lib.hid hnx
          clear hnx hnil hk0 hcl
          go_wp2
          go_roundw
          case rel => exact ⟨k + 1, by omega, by simp, (show _ = _ by rw [HNX.out]), by trivial⟩
          case measure => simp [intOf]; omega
end Go.Proofs.YtikpmeedjdddoaaDoor
