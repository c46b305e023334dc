/- spec.Forms: pick; spec.big; rows of pieces. PRINTED by wip/genht.py (its first part out of tpl/XPa). -/
import Derived.Test.YtjjhckbidcdkcaaDoorRk
import Derived.Deep.RegionHeld3
import Derived.Deep.DeepMust
import Derived.Lib.Hide
namespace Go.Proofs.YtjjhckbidcdkcaaDoor
open Go.RowKit
set_option linter.unusedVariables false

/-- A choice was made: Forms is as it was, but for its state. -/
def Pk (gf : Nat) (sh : Bool) (n : Nat) (W : World) (e : Ending) (W' : World) : Prop :=
  ∃ (k : Nat) (st' : Int), e = .returned (.int .i64 k) ∧ k < n ∧ Blk W' gf 77 [.int .u64 st', .bool sh] ∧ W.grownBy W' (some gf)
theorem grown_set (W : World) (g i : Nat) (v : Value) : W.grownBy (W.setCell ⟨g, i, none⟩ v) (some g) :=
  ⟨rfl, rfl, rfl, by simp, fun k hk hne => Below.heap_setCell W ⟨g, i, none⟩ v k (fun e => hne (by rw [e]))⟩
theorem pick_val (x : Int) (n : Nat) (h0 : 0 < n) : ∃ k : Nat, (wrap64 (IntKind.u64.wrap x / 8589934592)).tmod (n : Int) = (k : Int) ∧ k < n := by
  have h1 : 0 ≤ IntKind.u64.wrap x / 8589934592 ∧ IntKind.u64.wrap x / 8589934592 < 2147483648 := by rw [IntKind.wrap_u64]; omega
  obtain ⟨h1, h2⟩ := h1
  generalize IntKind.u64.wrap x / 8589934592 = y at *
  have h3 : wrap64 y = y := by unfold wrap64; omega
  rw [h3, Int.tmod_eq_emod_of_nonneg h1]
  have h4 := Int.emod_nonneg y (show (n : Int) ≠ 0 by omega)
  have h5 := Int.emod_lt_of_pos y (show (0 : Int) < n by omega)
  exact ⟨(y % (n : Int)).toNat, by omega, by omega⟩
theorem pk_ret {a b : Int} (h : a = b) : Ending.returned (.int .i64 a) = .returned (.int .i64 b) := by rw [h]
set_option maxHeartbeats 1000000 in
set_option maxRecDepth 100000 in
theorem pick_calls (W : World) (gf n : Nat) (st : Int) (sh : Bool) (h : Blk W gf 77 [.int .u64 st, .bool sh]) (h0 : 0 < n) (h1 : n ≤ 1000) :
    Calls Tryd.prog 65 #[.pointer (some ⟨gf, 0, none⟩), .int .i64 n] W (Pk gf sh n W) := by
  have q0 := h.cell 0
  have q1 := h.cell 1
  have f0 := h.frozen 0
  simp only [List.getElem?_cons_zero, List.getElem?_cons_succ] at q0 q1
  have H := Lib.hid h
  clear h
  cases sh
  · by_cases hn : n = 1
    · subst hn
      go_enter Tryd.func65, Tryd.ntmps65
      go_wp2
      go_ret
      exact ⟨0, st, rfl, by omega, H.out, World.grownBy.refl _ _⟩
    · have hn2 : ¬ ((n : Int) ≤ 1) := by omega
      have hd : decide ((n : Int) ≤ 1) = false := decide_eq_false hn2
      go_enter Tryd.func65, Tryd.ntmps65
      go_wp2
      go_ret
      obtain ⟨k, hk, hkn⟩ := pick_val (IntKind.u64.wrap (st * 6364136223846793005) + 1442695040888963407) n h0
      exact ⟨k, _, pk_ret hk, hkn, H.out.set_ 0 _, grown_set _ _ _ _⟩
  · go_enter Tryd.func65, Tryd.ntmps65
    go_wp2
    go_ret
    exact ⟨0, st, rfl, h0, H.out, World.grownBy.refl _ _⟩

theorem be_get (u : Int) (n j : Nat) (h : j < n) : (be u n)[j]? = some (byt u (n - 1 - j)) := by
  induction n generalizing j with
  | zero => omega
  | succ n ih =>
    cases j with
    | zero => simp [be]
    | succ j =>
      have := ih j (by omega)
      simp only [be, List.getElem?_cons_succ, this]
      rw [show n + 1 - 1 - (j + 1) = n - 1 - j by omega]
theorem be_take_succ (u : Int) (n k : Nat) (h0 : 0 < k) (h1 : k ≤ n) : (be u n).take (n - k + 1) = (be u n).take (n - k) ++ [byt u (k - 1)] := by
  have h := be_get u n (n - k) (by omega)
  rw [show n - 1 - (n - k) = k - 1 by omega] at h
  rw [List.take_add_one, h]
  rfl
theorem byt_pow (u : Int) (k : Nat) : u / 2 ^ (8 * k) % 256 = byt u k := by
  unfold byt
  rw [Int.pow_mul]
  rfl
theorem own_formP {w : World} {base n : Nat} {e : TypeId} {size : Nat} {v : Value} {xs : List Value} (h : w.ownsRow base e size v n xs) : ∃ A c, v = .slice A n c := by
  rcases h.2 with ⟨rfl, rfl⟩ | ⟨g, cap, cur, rfl, _, _, h1, h2, _⟩
  · exact ⟨none, 0, rfl⟩
  · exact ⟨_, cap, rfl⟩
theorem reads_oneP (w : World) (v : Value) (t : TypeId) : Reads (w.alloc (.cells #[v] t)) (w.heap.size + 1) 1 (some ⟨w.heap.size, 0, none⟩) 1 [v] := by
  refine ⟨rfl, fun _ => ⟨_, rfl, by simp, fun j u hu => ?_⟩⟩
  rw [add_lit, Nat.zero_add]
  exact ((Blk.new w t [v]).cell j).trans hu
/-- A call made a row of bytes of its own. -/
def Own8 (W : World) (l : List Int) (e : Ending) (W' : World) : Prop :=
  ∃ A c, e = .returned (.slice A l.length c) ∧ W'.ownsRow W.heap.size 5 1 (.slice A l.length c) l.length (bs l) ∧ Below W.heap.size W W'
set_option maxHeartbeats 2000000 in
set_option maxRecDepth 100000 in
theorem big_calls (W : World) (u : Int) (n : Nat) (h0 : 0 ≤ u) (h1 : u ≤ 18446744073709551615) (hn : n ≤ 8) :
    Calls Tryd.prog 98 #[.int .u64 u, .int .i64 n] W (Own8 W (be u n)) := by
  obtain ⟨i0, hi0, hz0, hz1, hz2⟩ := info_parts infoU8
  go_enter Tryd.func98, Tryd.ntmps98
  go_wp2
  go_loopw [5, 6] (fun v i wr => ∃ (k : Nat) (A : Option Addr) (c : Nat), k ≤ n ∧ i = .int .i64 ((k : Int) - 1) ∧ v = .slice A (n - k) c ∧ Hid (wr.ownsRow W.heap.size 5 1 (.slice A (n - k) c) (n - k) (bs ((be u n).take (n - k))) ∧ Below W.heap.size W wr)) (fun _ i _ => (intOf i + 1).toNat)
  case atStart => exact ⟨n, none, 0, Nat.le_refl _, rfl, by simp, ⟨by simp [bs], .inl ⟨by simp, by simp⟩⟩, Below.refl _ _⟩
  case round =>
    obtain ⟨k, A, c, hk, rfl, rfl, hrest⟩ := hrel
    by_cases hlt : 0 < k
    · have hts := be_take_succ u n k hlt hk
      rw [← byt_pow] at hts
      have hnk : n - (k - 1) = n - k + 1 := by omega
      have HTS := Lib.hid hts
      have HNK := Lib.hid hnk
      have hwz : W.heap.size ≤ wr.heap.size := hrest.out.2.size
      clear hts hnk
      go_wp2_with (
        (at_builtin)
        go_must (
          (refine wpList_append_any _ rfl (.tmp 13) (.tmp 19) 26 rfl W.heap.size 5 i0 _ 1 1 Tryd.underlying26 hi0 hz0 hz1 hz2 rfl (by omega) (.slice A (n - k) c) (n - k) _ rfl (hrest.out.1.alloc _) (wr.heap.size + 1) (some ⟨wr.heap.size, 0, none⟩) 1 1 [.int .u8 (u / 2 ^ (8 * (k - 1)) % 256)] rfl (reads_oneP _ _ _) (by simp [Value.oneCell']) (by simp only [maxLen]; omega) (by omega) (by simp; omega) ?_)
          intro v1 w3 hown1 hg1 hat1
          obtain ⟨A1', c1', rfl⟩ := own_formP hown1
          have HO1 := Lib.hid hown1
          have HBL := Lib.hid ((hrest.out.2.alloc hwz _).grown hg1 (by simp; omega) (fun j hj => (hrest.out.1.lt j hj).1))
          clear hown1 hg1 hat1))
      go_roundw
      case rel =>
        refine ⟨k - 1, A1', c1', by omega, by rw [show ((k - 1 : Nat) : Int) = (k : Int) - 1 by omega], by rw [HNK.out], ?_, HBL.out⟩
        have := HO1.out
        rw [HNK.out, HTS.out, bs_append]
        exact this
      case measure => simp [intOf]; omega
    · obtain rfl : k = 0 := by omega
      go_wp2
      go_ret
      have ho := hrest.out.1
      rw [Nat.sub_zero, List.take_of_length_le (by rw [be_length]; omega)] at ho
      refine ⟨A, c, ?_, by rw [be_length]; exact ho, hrest.out.2⟩
      rw [be_length]
      rfl


theorem own_neH {w : World} {base n g : Nat} {e t : TypeId} {size : Nat} {v : Value} {xs : List Value} {cs : List Value} (h : w.ownsRow base e size v n xs) (hg : Blk w g t cs) (hne : e ≠ t) : v.ownBlock ≠ some g := by
  intro hv
  rcases h.2 with ⟨rfl, _⟩ | ⟨g', cap, cur, rfl, _, hb, _⟩
  · simp [Value.ownBlock] at hv
  · simp [Value.ownBlock] at hv
    subst hv
    have h1 := hb.symm.trans hg
    injection h1 with h1
    injection h1 with _ h2
    exact hne h2
theorem own_neo {w : World} {base n base' n' : Nat} {e e' : TypeId} {size size' : Nat} {v v' : Value} {xs xs' : List Value} (h : w.ownsRow base e size v n xs) (h' : w.ownsRow base' e' size' v' n' xs') (hne : e ≠ e') : v.ownBlock = none ∨ v.ownBlock ≠ v'.ownBlock := by
  rcases h.2 with ⟨rfl, _⟩ | ⟨g, cap, cur, rfl, _, hb, _⟩
  · exact .inl rfl
  · right
    intro hv
    rcases h'.2 with ⟨rfl, _⟩ | ⟨g', cap', cur', rfl, _, hb', _⟩
    · simp [Value.ownBlock] at hv
    · simp [Value.ownBlock] at hv
      subst hv
      have h1 := hb.symm.trans hb'
      injection h1 with h1
      injection h1 with _ h2
      exact hne h2
theorem own_lowerH {w : World} {B B' n : Nat} {e : TypeId} {size : Nat} {v : Value} {xs : List Value} (h : w.ownsRow B e size v n xs) (hB : B' ≤ B) : w.ownsRow B' e size v n xs := by
  refine ⟨h.1, ?_⟩
  rcases h.2 with hn | ⟨g, cap, cur, hv, hb, rest⟩
  · exact .inl hn
  · exact .inr ⟨g, cap, cur, hv, Nat.le_trans hB hb, rest⟩
theorem own_belowH {w w' : World} {B n : Nat} {e : TypeId} {size : Nat} {v : Value} {xs : List Value} (h : w.ownsRow B e size v n xs) (hb : Below w.heap.size w w') : w'.ownsRow B e size v n xs := by
  refine ⟨h.1, ?_⟩
  rcases h.2 with hn | ⟨g, cap, cur, hv, h1, h2, rest⟩
  · exact .inl hn
  · refine .inr ⟨g, cap, cur, hv, h1, ?_, rest⟩
    have hl : g < w.heap.size := (Array.getElem?_eq_some_iff.1 h2).1
    exact (hb.block g hl).trans h2
/-- A piece: its code, and the bytes behind it. -/
abbrev Pce := Int × List Int
/-- The cells of a row of pieces. -/
def rowP : List Pce → List Value → List Value
  | p :: L, v :: S => .int .i64 p.1 :: v :: rowP L S
  | _, _ => []
theorem rowP_snoc : ∀ (L : List Pce) (S : List Value) (p : Pce) (v : Value), L.length = S.length → rowP (L ++ [p]) (S ++ [v]) = rowP L S ++ [.int .i64 p.1, v]
  | [], [], p, v, _ => rfl
  | q :: L, u :: S, p, v, h => by
    rw [List.cons_append, List.cons_append, rowP, rowP_snoc L S p v (by simpa using h), rowP]
    rfl
theorem rowP_append : ∀ (L : List Pce) (S : List Value) (L' : List Pce) (S' : List Value), L.length = S.length → rowP (L ++ L') (S ++ S') = rowP L S ++ rowP L' S'
  | [], [], _, _, _ => rfl
  | q :: L, u :: S, L', S', h => by
    rw [List.cons_append, List.cons_append, rowP, rowP_append L S L' S' (by simpa using h), rowP]
    rfl
theorem rowP_length : ∀ (L : List Pce) (S : List Value), L.length = S.length → (rowP L S).length = L.length * 2
  | [], [], _ => rfl
  | q :: L, u :: S, h => by
    rw [rowP, List.length_cons, List.length_cons, rowP_length L S (by simpa using h), List.length_cons]
    omega
theorem rowP_get : ∀ (L : List Pce) (S : List Value) (i : Nat) (p : Pce) (v : Value), L[i]? = some p → S[i]? = some v → (rowP L S)[i * 2]? = some (.int .i64 p.1) ∧ (rowP L S)[i * 2 + 1]? = some v
  | q :: L, u :: S, 0, p, v, h1, h2 => by
    simp at h1 h2
    subst h1 h2
    exact ⟨rfl, rfl⟩
  | q :: L, u :: S, i + 1, p, v, h1, h2 => by
    have := rowP_get L S i p v (by simpa using h1) (by simpa using h2)
    rw [rowP, show (i + 1) * 2 = i * 2 + 2 by omega]
    exact ⟨this.1, this.2⟩
  | [], _, _, _, _, h1, _ => by simp at h1
  | _ :: _, [], _, _, _, _, h2 => by simp at h2
/-- Bytes in a block of the call's own. -/
def RdB (W : World) (B : Nat) (l : List Int) (A : Option Addr) : Prop := l.length = 0 ∨ ∃ g cs fz, A = some ⟨g, 0, none⟩ ∧ B ≤ g ∧ W.heap[g]? = some (.cells cs 5 fz) ∧ cs.toList.take l.length = bs l
theorem RdB.below {W W' : World} {B : Nat} {l : List Int} {A : Option Addr} (h : RdB W B l A) (hb : Below W.heap.size W W') : RdB W' B l A := by
  rcases h with h | ⟨g, cs, fz, hA, hB, hg, hc⟩
  · exact .inl h
  · exact .inr ⟨g, cs, fz, hA, hB, (hb.block g (Array.getElem?_eq_some_iff.1 hg).1).trans hg, hc⟩
theorem RdB.lower {W : World} {B B' : Nat} {l : List Int} {A : Option Addr} (h : RdB W B l A) (hB : B' ≤ B) : RdB W B' l A := by
  rcases h with h | ⟨g, cs, fz, hA, hB2, hg, hc⟩
  · exact .inl h
  · exact .inr ⟨g, cs, fz, hA, Nat.le_trans hB hB2, hg, hc⟩
theorem RdB.kept {W W' : World} {B : Nat} {row : Option Nat} {l : List Int} {A : Option Addr} (h : RdB W B l A) (hg : W.grownBy W' row) (hne : ∀ j cs fz, row = some j → B ≤ j → W.heap[j]? ≠ some (.cells cs 5 fz)) : RdB W' B l A := by
  rcases h with h | ⟨g, cs, fz, hA, hB2, hgg, hc⟩
  · exact .inl h
  · refine .inr ⟨g, cs, fz, hA, hB2, ?_, hc⟩
    exact (hg.block g (Array.getElem?_eq_some_iff.1 hgg).1 (fun e => hne g cs fz e.symm hB2 hgg)).trans hgg
theorem RdB.keptg {W W' : World} {B g : Nat} {t : TypeId} {cs : List Value} {l : List Int} {A : Option Addr} (h : RdB W B l A) (hb : Blk W g t cs) (hne : 5 ≠ t) (hg : W.grownBy W' (some g)) : RdB W' B l A := by
  refine h.kept hg (fun j cs' fz e _ he => ?_)
  obtain rfl := Option.some.inj e
  have h1 := hb.symm.trans he
  injection h1 with h1
  injection h1 with _ h2
  exact hne h2.symm
theorem RdB.far {W W' : World} {B : Nat} {row : Option Nat} {l : List Int} {A : Option Addr} (h : RdB W B l A) (hg : W.grownBy W' row) (hr : ∀ j, row = some j → j < B) : RdB W' B l A :=
  h.kept hg (fun j _ _ e hB _ => by have := hr j e; omega)
theorem RdB.reads {W : World} {B : Nat} {l : List Int} {A : Option Addr} (h : RdB W B l A) : Reads W W.heap.size 1 A l.length (bs l) := by
  rcases h with h | ⟨g, cs, fz, hA, hB2, hg, hc⟩
  · exact ⟨by rw [bs_length]; omega, fun h0 => absurd h0 (by omega)⟩
  · refine ⟨by rw [bs_length]; omega, fun _ => ⟨_, hA, (Array.getElem?_eq_some_iff.1 hg).1, fun j u hu => ?_⟩⟩
    rw [add_lit, Nat.zero_add, cell_of_row _ _ j cs 5 fz hg]
    rw [← hc, List.getElem?_take] at hu
    split at hu
    · rw [← Array.getElem?_toList]; exact hu
    · cases hu
/-- A slice of bytes in a block of the call's own. -/
def OwnB (W : World) (B : Nat) (l : List Int) (v : Value) : Prop := ∃ A c, v = .slice A l.length c ∧ RdB W B l A
theorem OwnB.nil (W : World) (B : Nat) : OwnB W B [] (.slice none 0 0) := ⟨none, 0, rfl, .inl rfl⟩
theorem OwnB.of_own {W : World} {B n c : Nat} {A : Option Addr} {l : List Int} (h : W.ownsRow B 5 1 (.slice A n c) n (bs l)) (hn : l.length = n) : OwnB W B l (.slice A n c) := by
  refine ⟨A, c, by rw [hn], ?_⟩
  rcases h.2 with ⟨hv, h0⟩ | ⟨g, cap, cur, hv, hb, hg, _, _, _, ht⟩
  · exact .inl (by omega)
  · injection hv with hA
    rw [Nat.mul_one, ← hn] at ht
    exact .inr ⟨g, cur, _, hA, hb, hg, ht⟩
theorem OwnB.below {W W' : World} {B : Nat} {l : List Int} {v : Value} (h : OwnB W B l v) (hb : Below W.heap.size W W') : OwnB W' B l v := by
  obtain ⟨A, c, hv, ho⟩ := h
  exact ⟨A, c, hv, ho.below hb⟩
theorem OwnB.lower {W : World} {B B' : Nat} {l : List Int} {v : Value} (h : OwnB W B l v) (hB : B' ≤ B) : OwnB W B' l v := by
  obtain ⟨A, c, hv, ho⟩ := h
  exact ⟨A, c, hv, ho.lower hB⟩
theorem OwnB.kept {W W' : World} {B base n : Nat} {e : TypeId} {size : Nat} {u : Value} {xs : List Value} {l : List Int} {v : Value} (h : OwnB W B l v) (ho : W.ownsRow base e size u n xs) (hne : 5 ≠ e) (hg : W.grownBy W' u.ownBlock) : OwnB W' B l v := by
  obtain ⟨A, c, hv, h2⟩ := h
  refine ⟨A, c, hv, h2.kept hg (fun j cs fz e2 _ he => ?_)⟩
  rcases ho.2 with ⟨rfl, _⟩ | ⟨g, cap, cur, rfl, _, hb, _⟩
  · simp [Value.ownBlock] at e2
  · simp [Value.ownBlock] at e2
    subst e2
    have h1 := hb.symm.trans he
    injection h1 with h1
    injection h1 with _ h2
    exact hne h2.symm
theorem OwnB.keptg {W W' : World} {B g : Nat} {t : TypeId} {cs : List Value} {l : List Int} {v : Value} (h : OwnB W B l v) (hb : Blk W g t cs) (hne : 5 ≠ t) (hg : W.grownBy W' (some g)) : OwnB W' B l v := by
  obtain ⟨A, c, hv, h2⟩ := h
  exact ⟨A, c, hv, h2.keptg hb hne hg⟩
theorem OwnB.far {W W' : World} {B : Nat} {row : Option Nat} {l : List Int} {v : Value} (h : OwnB W B l v) (hg : W.grownBy W' row) (hr : ∀ j, row = some j → j < B) : OwnB W' B l v := by
  obtain ⟨A, c, hv, h2⟩ := h
  exact ⟨A, c, hv, h2.far hg hr⟩
/-- A row of pieces of the call's own. -/
def PcsW (W : World) (B : Nat) (L : List Pce) (v : Value) : Prop := ∃ (A : Option Addr) (c : Nat) (S : List Value), v = .slice A L.length c ∧ S.length = L.length ∧ W.ownsRow B 118 2 v L.length (rowP L S) ∧ ∀ (i : Nat) (p : Pce) (u : Value), L[i]? = some p → S[i]? = some u → OwnB W B p.2 u
theorem PcsW.nil (W : World) (B : Nat) : PcsW W B [] (.slice none 0 0) := ⟨none, 0, [], rfl, rfl, ⟨by simp [rowP], .inl ⟨rfl, rfl⟩⟩, fun i p u h => by simp at h⟩
theorem PcsW.below {W W' : World} {B : Nat} {L : List Pce} {v : Value} (h : PcsW W B L v) (hb : Below W.heap.size W W') : PcsW W' B L v := by
  obtain ⟨A, c, S, hv, hS, ho, hd⟩ := h
  exact ⟨A, c, S, hv, hS, own_belowH ho hb, fun i p u h1 h2 => (hd i p u h1 h2).below hb⟩
theorem PcsW.lower {W : World} {B B' : Nat} {L : List Pce} {v : Value} (h : PcsW W B L v) (hB : B' ≤ B) : PcsW W B' L v := by
  obtain ⟨A, c, S, hv, hS, ho, hd⟩ := h
  exact ⟨A, c, S, hv, hS, own_lowerH ho hB, fun i p u h1 h2 => (hd i p u h1 h2).lower hB⟩
theorem PcsW.keptg {W W' : World} {B g : Nat} {t : TypeId} {cs : List Value} {L : List Pce} {v : Value} (h : PcsW W B L v) (hb : Blk W g t cs) (hne : 5 ≠ t) (hne2 : 118 ≠ t) (hg : W.grownBy W' (some g)) : PcsW W' B L v := by
  obtain ⟨A, c, S, hv, hS, ho, hd⟩ := h
  exact ⟨A, c, S, hv, hS, ho.kept hg (.inr (own_neH ho hb hne2)), fun i p u h1 h2 => (hd i p u h1 h2).keptg hb hne hg⟩
theorem infoPce : (Tryd.prog.info? 118).map (fun i => (i.zero, i.size, i.bytes)) = some (some (.agg #[.int .i64 0, .slice none 0 0]), 2, 32) := by kernel_rfl
/-- A row of one piece, laid. -/
theorem pcsW_one (W : World) (B : Nat) (p : Pce) (v : Value) (hB : B ≤ W.heap.size) (h : OwnB W B p.2 v) : PcsW (W.alloc (.cells #[.int .i64 p.1, v] 118)) B [p] (.slice (some ⟨W.heap.size, 0, none⟩) 1 1) := by
  refine ⟨_, _, [v], rfl, rfl, ⟨rfl, .inr ⟨W.heap.size, 1, _, rfl, hB, heap_alloc_new W _, by simp, by simp [maxLen], by simp, rfl⟩⟩, fun i q u h1 h2 => ?_⟩
  match i with
  | 0 =>
    simp at h1 h2
    subst h1 h2
    exact h.below ((Below.refl _ W).alloc (Nat.le_refl _) _)
  | i + 1 => simp at h1
/-- A row of pieces, laid. -/
theorem pcsW_lay (W : World) (B : Nat) (L : List Pce) (S : List Value) (hS : S.length = L.length) (hl : L.length ≤ 100) (hB : B ≤ W.heap.size) (h : ∀ (i : Nat) (p : Pce) (u : Value), L[i]? = some p → S[i]? = some u → OwnB W B p.2 u) : PcsW (W.alloc (.cells (rowP L S).toArray 118)) B L (.slice (some ⟨W.heap.size, 0, none⟩) L.length L.length) := by
  have hlen := rowP_length L S hS.symm
  refine ⟨_, _, S, rfl, hS, ⟨hlen, .inr ⟨W.heap.size, L.length, _, rfl, hB, heap_alloc_new W _, Nat.le_refl _, by simp only [maxLen]; omega, by simp [hlen], by rw [← hlen]; simp⟩⟩, fun i p u h1 h2 => (h i p u h1 h2).below ((Below.refl _ W).alloc (Nat.le_refl _) _)⟩
/-- 'append(out, more...)' of pieces. -/
theorem wp_append_P {w : World} {B : Nat} {L M : List Pce} {v y : Value} {o : Oper} {a : Act} {K : Act → World → Prop} {Q : Exit → Act → World → Prop} (s x : Operand)
    (ho : o.op = .call { callee := .builtin .append, args := #[s, x], argTypes := #[115, 115] }) (hs : a.eval s = v) (hx : a.eval x = y)
    (h1 : PcsW w B L v) (h2 : PcsW w B M y) (hB : B ≤ w.heap.size) (hn : L.length + M.length ≤ 1000000)
    (h : ∀ A' c' w', Hid (PcsW w' B (L ++ M) (.slice A' (L.length + M.length) c')) → Hid (w.grownBy w' v.ownBlock) → K (a.put o.dst (.slice A' (L.length + M.length) c')) w') : o.wp Tryd.prog a w K Q := by
  obtain ⟨i0, hi0, hz0, hz1, hz2⟩ := info_parts infoPce
  obtain ⟨A, c, S, rfl, hS, hown, hd⟩ := h1
  obtain ⟨A2, c2, S2, rfl, hS2, hown2, hd2⟩ := h2
  have hone : ∀ (L : List Pce) (S : List Value), (∀ (i : Nat) (p : Pce) (u : Value), L[i]? = some p → S[i]? = some u → OwnB w B p.2 u) → ∀ v ∈ rowP L S, v.oneCell' = true := fun L => by
    induction L with
    | nil => intro S _ v hv; cases hv
    | cons q L ih =>
      intro S hd v hv
      cases S with
      | nil => cases hv
      | cons u S =>
        rw [rowP] at hv
        rcases List.mem_cons.1 hv with rfl | hv
        · rfl
        · rcases List.mem_cons.1 hv with rfl | hv
          · obtain ⟨A, c, rfl, _⟩ := hd 0 q v rfl rfl
            rfl
          · exact ih S (fun i p u h1 h2 => hd (i + 1) p u (by simpa using h1) (by simpa using h2)) v hv
  refine wp_append_any _ s x _ ho B 118 i0 _ 2 32 Tryd.underlying115 hi0 hz0 hz1 hz2 rfl (by omega) _ L.length (rowP L S) hs hown w.heap.size A2 M.length c2 (rowP M S2) hx (Reads.of_own hown2) (hone M S2 hd2) (by simp only [maxLen]; omega) (by omega) hB ?_
  intro v1 w1 hown1 hg1 hat1
  have hv1 : ∃ A c, v1 = .slice A (L.length + M.length) c := by
    rcases hown1.2 with ⟨hv, h0⟩ | ⟨g, cap, cur, rfl, _⟩
    · exact ⟨none, 0, by rw [hv, h0]⟩
    · exact ⟨_, _, rfl⟩
  obtain ⟨A', c', rfl⟩ := hv1
  refine h A' c' w1 ⟨A', c', S ++ S2, by rw [List.length_append], by rw [List.length_append, List.length_append, hS, hS2], by rw [rowP_append L S M S2 hS.symm, List.length_append]; exact hown1, fun i p u h1 h2 => ?_⟩ hg1
  by_cases hi : i < L.length
  · rw [List.getElem?_append_left hi] at h1
    rw [List.getElem?_append_left (by omega)] at h2
    exact (hd i p u h1 h2).kept hown (by decide) hg1
  · rw [List.getElem?_append_right (by omega)] at h1
    rw [List.getElem?_append_right (by omega), hS] at h2
    exact (hd2 _ p u h1 h2).kept hown (by decide) hg1
theorem step_append_P {w : World} {B : Nat} {L M : List Pce} {v y : Value} {ops : Array Oper} {o : Oper} {a : Act} {K : Act → World → Prop} {Q : Exit → Act → World → Prop} {E : Prop} (hgd : o.guard = none) (s x : Operand) (N : Nat) (hN : L.length + M.length = N)
    (ho : o.op = .call { callee := .builtin .append, args := #[s, x], argTypes := #[115, 115] }) (hs : a.eval s = v) (hx : a.eval x = y)
    (h1 : PcsW w B L v) (h2 : PcsW w B M y) (hB : B ≤ w.heap.size) (hn : N ≤ 1000000)
    (h : ∀ A' c' w', Hid (PcsW w' B (L ++ M) (.slice A' N c')) → Hid (w.grownBy w' v.ownBlock) → K (a.put o.dst (.slice A' N c')) w') :
    if Region.wanted o (yielded ops a.tmps) = true then Oper.wp Tryd.prog o a w K Q else E := by
  have hwd : Region.wanted o (yielded ops a.tmps) = true := by simp [Region.wanted, hgd]
  rw [if_pos hwd]
  subst hN
  exact wp_append_P s x ho hs hx h1 h2 hB hn h
/-- 'append(x, y...)' of bytes, x of the call's own. -/
theorem step_append_B {w : World} {B n m N c c2 : Nat} {A A2 : Option Addr} {l l2 : List Int} {ops : Array Oper} {o : Oper} {a : Act} {K : Act → World → Prop} {Q : Exit → Act → World → Prop} {E : Prop} (hgd : o.guard = none) (x y : Operand) (hN : n + m = N)
    (ho : o.op = .call { callee := .builtin .append, args := #[x, y], argTypes := #[26, 26] }) (hs : a.eval x = .slice A n c) (hx : a.eval y = .slice A2 m c2)
    (hown : w.ownsRow B 5 1 (.slice A n c) n (bs l)) (hr : Reads w w.heap.size 1 A2 m (bs l2)) (hB : B ≤ w.heap.size) (hn : N ≤ 1000000000)
    (h : ∀ A' c' w', Hid (w'.ownsRow B 5 1 (.slice A' N c') N (bs (l ++ l2))) → Hid (w.grownBy w' (Value.slice A n c).ownBlock) → K (a.put o.dst (.slice A' N c')) w') :
    if Region.wanted o (yielded ops a.tmps) = true then Oper.wp Tryd.prog o a w K Q else E := by
  have hwd : Region.wanted o (yielded ops a.tmps) = true := by simp [Region.wanted, hgd]
  rw [if_pos hwd]
  subst hN
  obtain ⟨i0, hi0, hz0, hz1, hz2⟩ := info_parts infoU8
  refine wp_append_any _ x y _ ho B 5 i0 _ 1 1 Tryd.underlying26 hi0 hz0 hz1 hz2 rfl (by omega) _ n (bs l) hs hown w.heap.size A2 m c2 (bs l2) hx hr (bs_one l2) (by simp only [maxLen]; omega) (by omega) hB ?_
  intro v1 w1 hown1 hg1 hat1
  rw [← bs_append] at hown1
  obtain ⟨A', c', rfl⟩ := own_formP hown1
  exact h A' c' w1 hown1 hg1
end Go.Proofs.YtjjhckbidcdkcaaDoor
