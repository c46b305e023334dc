/- msgp's Writer.Write: bytes go into the buffer, or behind it into the Text. PRINTED by wip/genbx.py. -/
import Derived.Test.YtohainhkplombaaDoorBw
import Derived.Laws.CopyOwn
import Derived.StillTailTactics
namespace Go.Proofs.YtohainhkplombaaDoor
open Go.RowKit
set_option linter.unusedVariables false

theorem grown_setRow (w : World) (g : Nat) (cs : Array Value) : w.grownBy (w.setRow g cs) (some g) :=
  ⟨rfl, rfl, rfl, by simp [World.setRow], fun k hk hne => setRow_other w g k cs (by first | exact (fun e => hne (by rw [e])) | exact (fun e => hne (by rw [← e])))⟩
theorem grown_refl (w : World) (row : Option Nat) : w.grownBy w row := ⟨rfl, rfl, rfl, Nat.le_refl _, fun _ _ _ => rfl⟩
theorem wpList_copy_g {P : Program} {w : World} {ops : Array Oper} {rest : List Oper} {o : Oper} {a : Act} {Q : Exit → Act → World → Prop} (hgd : o.guard = none) (d s : Operand) (dT sT : TypeId)
    (ho : o.op = .call { callee := .builtin .copy, args := #[d, s], argTypes := #[dT, sT] }) (elem : TypeId) (hu : P.underlying dT = some (.slice elem)) (hsz : (P.info? elem).map (·.size) = some 1)
    (dp sp : Option Addr) (dLen dCap sLen sCap : Nat) (hd : a.eval d = .slice dp dLen dCap) (hs : a.eval s = .slice sp sLen sCap)
    (g off : Nat) (cur : List Value) (t : TypeId) (hg : w.heap[g]? = some (.cells cur.toArray t (0, 0))) (cs : List Value) (hn : cs.length = Nat.min sLen dLen)
    (hpos : 0 < cs.length → dp = some ⟨g, off, none⟩ ∧ ∃ ad, sp = some ad ∧ ∀ j v, cs[j]? = some v → w.cell? (ad.add j) = some v)
    (hfit : off + cs.length ≤ cur.length) (h1 : ∀ v ∈ cs, v.oneCell' = true)
    (h : ∀ w', Hid (Blk w' g t (splice cur off cs)) → w.grownBy w' (some g) → wpList P ops Q rest (a.put o.dst (goInt cs.length)) w') :
    wpList P ops Q (o :: rest) a w := by
  by_cases h0 : cs.length = 0
  · obtain rfl : cs = [] := List.eq_nil_of_length_eq_zero h0
    refine wpList_copy_nothing hgd d s dT sT ho elem hu hsz dp sp dLen dCap sLen sCap hd hs (by simpa using hn.symm) ?_
    exact h w (show Blk w g t _ by rw [splice_nil]; exact hg) (grown_refl _ _)
  · obtain ⟨rfl, ad, rfl, hsrc⟩ := hpos (by omega)
    refine wpList_copy_own hgd d s dT sT ho elem hu hsz g off dLen dCap ad sLen sCap hd hs cur.toArray t hg cs hn hsrc (by simpa using hfit) h1 ?_
    exact h _ (show _ = _ by simpa [splice] using setRow_heap w g _ _ t _ hg) (grown_setRow _ _ _)
theorem step_copy_g {P : Program} {ops : Array Oper} {o : Oper} {a : Act} {w : World} {K : Act → World → Prop} {Q : Exit → Act → World → Prop} {E : Prop} (hgd : o.guard = none) (d s : Operand) (dT sT : TypeId)
    (ho : o.op = .call { callee := .builtin .copy, args := #[d, s], argTypes := #[dT, sT] }) (elem : TypeId) (hu : P.underlying dT = some (.slice elem)) (hsz : (P.info? elem).map (·.size) = some 1)
    (dp sp : Option Addr) (dLen dCap sLen sCap : Nat) (hd : a.eval d = .slice dp dLen dCap) (hs : a.eval s = .slice sp sLen sCap)
    (g off : Nat) (cur : List Value) (t : TypeId) (hg : w.heap[g]? = some (.cells cur.toArray t (0, 0))) (cs : List Value) (hn : cs.length = Nat.min sLen dLen)
    (hpos : 0 < cs.length → dp = some ⟨g, off, none⟩ ∧ ∃ ad, sp = some ad ∧ ∀ j v, cs[j]? = some v → w.cell? (ad.add j) = some v)
    (hfit : off + cs.length ≤ cur.length) (h1 : ∀ v ∈ cs, v.oneCell' = true)
    (h : ∀ w', Hid (Blk w' g t (splice cur off cs)) → w.grownBy w' (some g) → K (a.put o.dst (goInt cs.length)) w') :
    if Region.wanted o (yielded ops a.tmps) = true then Oper.wp P o a w K Q else E := by
  have hw : Region.wanted o (yielded ops a.tmps) = true := by simp [Region.wanted, hgd]
  rw [if_pos hw]
  by_cases h0 : cs.length = 0
  · obtain rfl : cs = [] := List.eq_nil_of_length_eq_zero h0
    have hrun := run_copy_none (P := P) w dT sT o.type elem dp sp dLen dCap sLen sCap hu hsz (by simpa using hn.symm)
    unfold Oper.wp
    simp [execOp, ho, resolve, invoke, builtin, hd, hs, hrun, Result.andThen]
    exact h w (show Blk w g t _ by rw [splice_nil]; exact hg) (grown_refl _ _)
  · obtain ⟨rfl, ad, rfl, hsrc⟩ := hpos (by omega)
    have hrun := run_copy_row (P := P) w dT sT o.type elem g off dLen dCap ad sLen sCap cur.toArray t cs hu hsz hg hn hsrc (by simpa using hfit) h1
    unfold Oper.wp
    simp [execOp, ho, resolve, invoke, builtin, hd, hs, hrun, Result.andThen]
    exact h _ (show _ = _ by simpa [splice] using setRow_heap w g _ _ t _ hg) (grown_setRow _ _ _)

/-- The bytes lie elsewhere than the Writer. -/
def Far (gw gb gt : Nat) (v : Value) (A : Option Addr) (n : Nat) : Prop := 0 < n → ∀ ad, A = some ad → ad.block ≠ gw ∧ ad.block ≠ gb ∧ ad.block ≠ gt ∧ some ad.block ≠ v.ownBlock
theorem Far.frm {W W' : World} {gw gb gt n : Nat} {v v' : Value} {A : Option Addr} {l : List Value} (hf : Far gw gb gt v A n) (h : Reads W W.heap.size 1 A n l) (hF : Frm W W' gw gb gt v v') : Far gw gb gt v' A n := by
  intro h0 ad hA
  obtain ⟨ad', hA', hB, _⟩ := h.2 h0
  rw [hA] at hA'
  injection hA' with e
  subst e
  obtain ⟨a, b, c, d⟩ := hf h0 ad hA
  refine ⟨a, b, c, ?_⟩
  rcases hF.own with e | ⟨k, e, hk⟩
  · rw [e]; exact d
  · rw [e]; intro he; injection he with he; omega
theorem Far.reads {W W' : World} {gw gb gt n : Nat} {v v' : Value} {A : Option Addr} {l : List Value} (hf : Far gw gb gt v A n) (h : Reads W W.heap.size 1 A n l) (hF : Frm W W' gw gb gt v v') : Reads W' W'.heap.size 1 A n l := by
  rcases Nat.eq_zero_or_pos n with h0 | h0
  · exact ⟨h.1, fun h1 => absurd h1 (by omega)⟩
  · exact reads_frm h hF (hf h0)
/-- Behind Text.Write of what does not lie in the buffer. -/
theorem text_after {w0 W W1 : World} {B gw gb gt : Nat} {cs : List Value} {v v' : Value} {out r : List Int} (h : WP w0 W B gw gb gt cs v out [])
    (hb1 : Blk W1 gt 44 [v']) (ho1 : W1.ownsRow B 5 1 v' (out ++ r).length (bs (out ++ r)))
    (hfr1 : ∀ k, k < W.drew.heap.size → k ≠ gt → some k ≠ v.ownBlock → W1.heap[k]? = W.drew.heap[k]?) (hat1 : v'.ownBlock = v.ownBlock ∨ v'.ownBlock = some W.drew.heap.size) (hbel1 : Below B w0 W1) (hsz1 : W.drew.heap.size ≤ W1.heap.size) :
    WP w0 W1 B gw gb gt cs v' (out ++ r) [] := by
  have e1 : gw ≠ gt := h.wr.ne_ h.txt (by decide)
  have e2 : gb ≠ gt := h.buf.ne_ h.txt (by decide)
  have e3 := own_blk_ne h.own h.wr (by decide)
  refine ⟨(hfr1 gw h.wr.lt e1 (fun e => e3 e.symm)).trans h.wr, (hfr1 gb h.buf.lt e2 (fun e => h.ne e.symm)).trans h.buf, h.tk, h.le, h.lo, h.hi, hb1, ho1, ?_, h.bw, h.bb, h.bt, hbel1, Nat.le_trans h.bsz hsz1⟩
  rcases hat1 with e | e
  · rw [e]; exact h.ne
  · rw [e]
    intro he
    injection he with he
    have := h.buf.lt
    have h2 : W.drew.heap.size = W.heap.size := rfl
    omega

/-- What Write leaves: so many bytes are written, in all. -/
def WrPost (w0 : World) (B gw gb gt N n : Nat) (tot : List Int) (e : Ending) (W' : World) : Prop :=
  e = .returned (.tuple #[.int .i64 n, .nilIface]) ∧ ∃ cs v out pend, cs.length = N ∧ WP w0 W' B gw gb gt cs v out pend ∧ out ++ pend = tot

set_option maxHeartbeats 2000000 in
set_option maxRecDepth 100000 in
theorem Write_fits (w0 W : World) (B gw gb gt c : Nat) (cs : List Value) (v : Value) (out pend r : List Int) (A : Option Addr) (h : WP w0 W B gw gb gt cs v out pend) (hr : Reads W W.heap.size 1 A r.length (bs r)) (hn : out.length + pend.length + r.length ≤ 1099511627776) (hfit : pend.length + r.length ≤ cs.length) :
    Calls Tryd.prog 18 #[.pointer (some ⟨gw, 0, none⟩), .slice A r.length c] W (WrPost w0 B gw gb gt cs.length r.length (out ++ pend ++ r)) := by
  have HW := Lib.hid h
  have HR := Lib.hid hr
  have hle := h.le
  have hlo := h.lo
  have hhi := h.hi
  obtain ⟨q0, q1, q2⟩ := wp_cells h
  have hd : decide ((cs.length : Int) - (pend.length : Int) < (r.length : Int)) = false := decide_eq_false (by omega)
  have hj0 : (0 : Int) ≤ (pend.length : Int) := by omega
  have hj1 : (pend.length : Int) ≤ (cs.length : Int) := by omega
  have hj2 : ((pend.length : Int)).toNat = pend.length := by omega
  have hj3 : IntKind.i64.wrap ((pend.length : Int) + (r.length : Int)) = (pend.length : Int) + (r.length : Int) := by rw [IntKind.wrap_i64]; omega
  clear h hr
  by_cases hcp : cs.length = pend.length
  all_goals
    go_enter Tryd.func18, Tryd.ntmps18
    go_wp2_with (
      (go_at_call 27)
      go_must (
        (refine (avail_calls w0 _ B gw gb gt cs v out pend (HW.out)).mono ?_)
        rintro e w' ⟨rfl, n, rfl⟩))
    have kA : Below B w0 (W.drewN n) := below_drewN HW.out.bel n
    have kB := kA.drew
    have hbw := HW.out.bw
    go_region_law (
      (refine step_copy_g rfl (.tmp 46) (.tmp 47) 24 24 rfl 5 Tryd.underlying24 (by kernel_rfl) _ _ _ _ _ _ rfl rfl gb pend.length cs 5 (HW.out.buf.drewN (n + 1)) (bs r) ?_ ?_ ?_ (bs_one r) ?_
       · rw [bs_length]; exact (Nat.min_eq_left (by omega)).symm
       · intro h0
         rw [bs_length] at h0
         obtain ⟨ad, hA, _, hc⟩ := HR.out.2 h0
         exact ⟨by first | rfl | (exfalso; omega), ad, hA, hc⟩
       · rw [bs_length]; omega
       rw [bs_length]
       intro W2 HB2 hg2
       obtain ⟨p0, p1, p2⟩ := wr_kept (n := n + 1) HW.out hg2
       have fz := wr_frozen (n := n + 1) HW.out hg2
       have HG2 := Lib.hid hg2
       clear hg2))
    all_goals
      try go_wp2
      go_ret2
      exact ⟨rfl, splice cs pend.length (bs r), v, out, pend ++ r, length_splice _ _ _ (by rw [bs_length]; exact hfit), wp_wrote HW.out r hfit (n + 1) HB2.out HG2.out _ rfl, by rw [List.append_assoc]⟩

end Go.Proofs.YtohainhkplombaaDoor
