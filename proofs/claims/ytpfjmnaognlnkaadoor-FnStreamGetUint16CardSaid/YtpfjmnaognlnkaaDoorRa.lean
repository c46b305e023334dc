/- impl.drops.Read: at most so many bytes at once go over. PRINTED by wip/genra.py. -/
import Derived.Test.YtpfjmnaognlnkaaDoorRk
import Derived.Laws.CopyOwn
import Derived.Deep.RegionHeld3
import Derived.Lib.MinMax
namespace Go.Proofs.YtpfjmnaognlnkaaDoor
open Go.RowKit
set_option linter.unusedVariables false

theorem grown_setRow (w : World) (g : Nat) (cs : Array Value) : w.grownBy (w.setRow g cs) (some g) :=
  ⟨rfl, rfl, rfl, by simp [World.setRow], fun k hk hne => setRow_other w g k cs (by first | exact (fun e => hne (by rw [e])) | exact (fun e => hne (by rw [← e])))⟩
theorem grown_refl (w : World) (row : Option Nat) : w.grownBy w row := ⟨rfl, rfl, rfl, Nat.le_refl _, fun _ _ _ => rfl⟩
theorem wpList_copy_g {P : Program} {w : World} {ops : Array Oper} {rest : List Oper} {o : Oper} {a : Act} {Q : Exit → Act → World → Prop} (hgd : o.guard = none) (d s : Operand) (dT sT : TypeId)
    (ho : o.op = .call { callee := .builtin .copy, args := #[d, s], argTypes := #[dT, sT] }) (elem : TypeId) (hu : P.underlying dT = some (.slice elem)) (hsz : (P.info? elem).map (·.size) = some 1)
    (dp sp : Option Addr) (dLen dCap sLen sCap : Nat) (hd : a.eval d = .slice dp dLen dCap) (hs : a.eval s = .slice sp sLen sCap)
    (g off : Nat) (cur : List Value) (t : TypeId) (hg : w.heap[g]? = some (.cells cur.toArray t (0, 0))) (cs : List Value) (hn : cs.length = Nat.min sLen dLen)
    (hpos : 0 < cs.length → dp = some ⟨g, off, none⟩ ∧ ∃ ad, sp = some ad ∧ ∀ j v, cs[j]? = some v → w.cell? (ad.add j) = some v)
    (hfit : off + cs.length ≤ cur.length) (h1 : ∀ v ∈ cs, v.oneCell' = true)
    (h : ∀ w', Hid (Blk w' g t (splice cur off cs)) → w.grownBy w' (some g) → wpList P ops Q rest (a.put o.dst (goInt cs.length)) w') :
    wpList P ops Q (o :: rest) a w := by
  by_cases h0 : cs.length = 0
  · obtain rfl : cs = [] := List.eq_nil_of_length_eq_zero h0
    refine wpList_copy_nothing hgd d s dT sT ho elem hu hsz dp sp dLen dCap sLen sCap hd hs (by simpa using hn.symm) ?_
    exact h w (show Blk w g t _ by rw [splice_nil]; exact hg) (grown_refl _ _)
  · obtain ⟨rfl, ad, rfl, hsrc⟩ := hpos (by omega)
    refine wpList_copy_own hgd d s dT sT ho elem hu hsz g off dLen dCap ad sLen sCap hd hs cur.toArray t hg cs hn hsrc (by simpa using hfit) h1 ?_
    exact h _ (show _ = _ by simpa [splice] using setRow_heap w g _ _ t _ hg) (grown_setRow _ _ _)

theorem step_copy_g {P : Program} {ops : Array Oper} {o : Oper} {a : Act} {w : World} {K : Act → World → Prop} {Q : Exit → Act → World → Prop} {E : Prop} (hgd : o.guard = none) (d s : Operand) (dT sT : TypeId)
    (ho : o.op = .call { callee := .builtin .copy, args := #[d, s], argTypes := #[dT, sT] }) (elem : TypeId) (hu : P.underlying dT = some (.slice elem)) (hsz : (P.info? elem).map (·.size) = some 1)
    (dp sp : Option Addr) (dLen dCap sLen sCap : Nat) (hd : a.eval d = .slice dp dLen dCap) (hs : a.eval s = .slice sp sLen sCap)
    (g off : Nat) (cur : List Value) (t : TypeId) (hg : w.heap[g]? = some (.cells cur.toArray t (0, 0))) (cs : List Value) (hn : cs.length = Nat.min sLen dLen)
    (hpos : 0 < cs.length → dp = some ⟨g, off, none⟩ ∧ ∃ ad, sp = some ad ∧ ∀ j v, cs[j]? = some v → w.cell? (ad.add j) = some v)
    (hfit : off + cs.length ≤ cur.length) (h1 : ∀ v ∈ cs, v.oneCell' = true)
    (h : ∀ w', Hid (Blk w' g t (splice cur off cs)) → w.grownBy w' (some g) → K (a.put o.dst (goInt cs.length)) w') :
    if Region.wanted o (yielded ops a.tmps) = true then Oper.wp P o a w K Q else E := by
  have hw : Region.wanted o (yielded ops a.tmps) = true := by simp [Region.wanted, hgd]
  rw [if_pos hw]
  by_cases h0 : cs.length = 0
  · obtain rfl : cs = [] := List.eq_nil_of_length_eq_zero h0
    have hrun := run_copy_none (P := P) w dT sT o.type elem dp sp dLen dCap sLen sCap hu hsz (by simpa using hn.symm)
    unfold Oper.wp
    simp [execOp, ho, resolve, invoke, builtin, hd, hs, hrun, Result.andThen]
    exact h w (show Blk w g t _ by rw [splice_nil]; exact hg) (grown_refl _ _)
  · obtain ⟨rfl, ad, rfl, hsrc⟩ := hpos (by omega)
    have hrun := run_copy_row (P := P) w dT sT o.type elem g off dLen dCap ad sLen sCap cur.toArray t cs hu hsz hg hn hsrc (by simpa using hfit) h1
    unfold Oper.wp
    simp [execOp, ho, resolve, invoke, builtin, hd, hs, hrun, Result.andThen]
    exact h _ (show _ = _ by simpa [splice] using setRow_heap w g _ _ t _ hg) (grown_setRow _ _ _)

theorem reads_far {W W' : World} {K n : Nat} {A : Option Addr} {xs : List Value} (h : Reads W K 1 A n xs) (hk : ∀ ad, A = some ad → ad.block < K → W'.heap[ad.block]? = W.heap[ad.block]?) : Reads W' K 1 A n xs := by
  refine ⟨h.1, fun h0 => ?_⟩
  obtain ⟨ad, hA, hB, hc⟩ := h.2 h0
  exact ⟨ad, hA, hB, fun j u hu => (World.cell?_of_block (a := ad.add j) (by rw [block_of_add]; exact hk ad hA hB)).trans (hc j u hu)⟩
/-- How many bytes come at once. -/
def atOnce (sz : Nat) (rest : List Int) (ch : Int) : Nat := min (min rest.length ch.toNat) sz
/-- What Read leaves. -/
def DR (W : World) (gd gr K k sz : Nat) (cs : List Value) (rest : List Int) (ch : Int) (A0 : Option Addr) (e : Ending) (W' : World) : Prop :=
  e = .returned (.tuple #[.int .i64 (atOnce sz rest ch), .nilIface]) ∧ ∃ Ad cd, Blk W' gd 75 [.slice Ad (rest.drop (atOnce sz rest ch)).length cd, .int .i64 ch] ∧ (rest.drop (atOnce sz rest ch)).length ≤ cd ∧ cd ≤ maxLen ∧ (∀ ad, Ad = some ad → ∃ a0, A0 = some a0 ∧ ad.block = a0.block) ∧
    Reads W' K 1 Ad (rest.drop (atOnce sz rest ch)).length (bs (rest.drop (atOnce sz rest ch))) ∧ Blk W' gr 5 (splice cs k (bs (rest.take (atOnce sz rest ch)))) ∧
    ∃ W2 n u, (W.drewN n).grownBy W2 (some gr) ∧ W' = W2.setCell ⟨gd, 0, none⟩ u

set_option maxHeartbeats 2000000 in
set_option maxRecDepth 100000 in
theorem dropsRead_calls (W : World) (gd gr K k sz c cd : Nat) (cs : List Value) (rest : List Int) (Ad : Option Addr) (ch : Int) (hd : Blk W gd 75 [.slice Ad rest.length cd, .int .i64 ch]) (hr : Reads W K 1 Ad rest.length (bs rest)) (hcd : rest.length ≤ cd) (hcm : cd ≤ maxLen) (hb : Blk W gr 5 cs) (hne : 0 < rest.length) (hsz : 1 ≤ sz) (hfit : k + sz ≤ cs.length) (hm : cs.length ≤ maxLen) (hch0 : 1 ≤ ch) (hch1 : ch ≤ 65536) (hK : K ≤ W.heap.size)
    (hfar : ∀ ad, Ad = some ad → ad.block ≠ gr ∧ ad.block ≠ gd) :
    Calls Tryd.prog 77 #[.pointer (some ⟨gd, 0, none⟩), .slice (some ⟨gr, k, none⟩) sz c] W (DR W gd gr K k sz cs rest ch Ad) := by
  have hgr : gr ≠ gd := hb.ne_ hd (by decide)
  have q0 := hd.cell 0
  have q1 := hd.cell 1
  simp only [List.getElem?_cons_zero, List.getElem?_cons_succ] at q0 q1
  have f0 := hd.frozen 0
  have HD := Lib.hid hd
  have HR := Lib.hid hr
  have HB := Lib.hid hb
  have HF := Lib.hid hfar
  have hd0 : ((rest.length : Int) == 0) = false := beq_eq_false_iff_ne.2 (by omega)
  have hmx : max ch 1 = ch := by omega
  obtain ⟨T, hT⟩ : ∃ T, atOnce sz rest ch = T := ⟨_, rfl⟩
  have hTe : T = min (min rest.length ch.toNat) sz := hT.symm
  obtain ⟨M, hM⟩ : ∃ M, M = min rest.length ch.toNat := ⟨_, rfl⟩
  have hmn : min (rest.length : Int) ch = (M : Int) := by rw [hM]; omega
  have hM0 : (0 : Int) ≤ (M : Int) := by omega
  have hM4 : M ≤ rest.length := by omega
  have hM1 : (M : Int) ≤ (rest.length : Int) := by omega
  have hM2 : (M : Int) ≤ (cd : Int) := by omega
  have hM3 : ((M : Int)).toNat = M := by omega
  have hTM : T = min M sz := by omega
  have hT0 : (0 : Int) ≤ (T : Int) := by omega
  have hT4 : T ≤ rest.length := by omega
  have hT1 : (T : Int) ≤ (rest.length : Int) := by omega
  have hT2 : (T : Int) ≤ (cd : Int) := by omega
  have hT3 : ((T : Int)).toNat = T := by omega
  have hT5 : T ≤ cd := by omega
  have hTs : T ≤ sz := by omega
  have HTM := Lib.hid hTM
  have hTl : (rest.take T).length = T := by rw [List.length_take]; omega
  have HTL := Lib.hid hTl
  have HDL : Hid ((rest.drop T).length = rest.length - T) := List.length_drop
  have HR3 : Hid (∀ A', (A' = if cd = T then Ad else Ad.map (·.add T)) → Reads W K 1 A' (rest.drop T).length (bs (rest.drop T))) := fun A' hA' => reads_cut HR.out hT4 hcd hA'
  unfold DR
  rw [hT]
  clear hd hr hb hfar hM hTe hTM hTl hT
  have hcs : (cd = T ∧ (M : Int) ≤ (T : Int)) ∨ (¬ cd = T ∧ (M : Int) ≤ (cd : Int)) := by omega
  rcases hcs with ⟨hcT, hX⟩ | ⟨hcT, hX⟩
  all_goals
    go_enter Tryd.func77, Tryd.ntmps77
    go_wp2
    go_region_held3 (fun W' => W'.cell? ⟨gd, 0, none⟩ = some (.slice Ad rest.length cd) ∧ W'.cell? ⟨gd, 1, none⟩ = some (.int .i64 ch)) (first | assumption | go_keep)
      (first
        | (refine step_copy_g rfl (.tmp 14) (.tmp 30) 27 27 rfl 5 Tryd.underlying27 (by kernel_rfl) _ _ _ _ _ _ rfl rfl gr k cs 5 (HB.out.drewN 1) (bs (rest.take T)) ?_ ?_ ?_ (bs_one _) ?_
           · rw [bs_length, HTL.out]
             exact HTM.out
           · intro h0
             obtain ⟨ad, hA, _, hc⟩ := HR.out.2 hne
             refine ⟨rfl, ad, hA, fun j v hv => hc j v ?_⟩
             rw [← bs_take, List.getElem?_take] at hv
             split at hv
             · exact hv
             · cases hv
           · rw [bs_length, HTL.out]
             omega
           rw [bs_length, HTL.out]
           intro W2 HB2 hg2
           have hd2 : Blk W2 gd 75 [.slice Ad rest.length cd, .int .i64 ch] := (HD.out.drewN 1).grown hg2 (fun e => hgr (by injection e with e; exact e.symm))
           have hS2 : W2.cell? ⟨gd, 0, none⟩ = some (.slice Ad rest.length cd) ∧ W2.cell? ⟨gd, 1, none⟩ = some (.int .i64 ch) := ⟨hd2.cell 0, hd2.cell 1⟩
           have f2 := hd2.frozen 0
           have HD2 := Lib.hid hd2
           have HG2 := Lib.hid hg2
           clear hd2 hg2))
    obtain ⟨p0, p1⟩ := hS2
    clear q0 q1
    go_wp2
    go_ret2
    have hkeep : ∀ (u : Value) ad, Ad = some ad → (W2.setCell ⟨gd, 0, none⟩ u).heap[ad.block]? = W.heap[ad.block]? := fun u ad hA => by
      obtain ⟨ad', hA', hB', _⟩ := HR.out.2 hne
      rw [hA] at hA'
      injection hA' with e
      subst e
      obtain ⟨x1, x2⟩ := HF.out ad hA
      exact (Below.heap_setCell W2 ⟨gd, 0, none⟩ u ad.block x2).trans (HG2.out.block ad.block (Nat.lt_of_lt_of_le hB' hK) (fun e => x1 (by injection e)))
    refine ⟨rfl, _, _, by rw [HDL.out]; exact HD2.out.set_ 0 _, by rw [HDL.out]; omega, by first | omega | (simp only [maxLen]; omega), ?_, ?_, HB2.out.far hgr _, W2, 1, _, HG2.out, rfl⟩
    · first
        | exact fun ad hA => ⟨ad, hA, rfl⟩
        | (intro ad hA
           obtain ⟨ad0, hA0, rfl⟩ := Option.map_eq_some_iff.1 hA
           exact ⟨ad0, hA0, block_of_add _ _⟩)
    first
      | exact reads_far (HR3.out _ (by rw [if_pos hcT])) (fun ad hA _ => hkeep _ ad hA)
      | (refine reads_far (HR3.out _ (by rw [if_neg hcT])) (fun ad hA _ => ?_)
         obtain ⟨ad0, hA0, rfl⟩ := Option.map_eq_some_iff.1 hA
         rw [block_of_add]
         exact hkeep _ ad0 hA0)
end Go.Proofs.YtpfjmnaognlnkaaDoor
