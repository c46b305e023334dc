/- msgp's source over bytes that come by pieces: its state, and 'more'. PRINTED by wip/genrb.py. -/
import Derived.Test.YtpfjmnaognlnkaaDoorRa
import Derived.Deep.Cut
import Derived.Laws.MakeOwn
namespace Go.Proofs.YtpfjmnaognlnkaaDoor
open Go.RowKit
set_option linter.unusedVariables false

/-- The room: nothing yet, or a row of its own that begins with these bytes. -/
def Room (W : World) (B sz : Nat) (v : Value) (l : List Int) : Prop :=
  (v = .slice none 0 0 ∧ l = []) ∨ ∃ g cs, v = .slice (some ⟨g, 0, none⟩) l.length cs.length ∧ Blk W g 5 cs ∧ cs.take l.length = bs l ∧ l.length ≤ cs.length ∧ B ≤ g ∧ (cs.length = sz ∨ cs.length = 3 * sz)
/-- Blocks of other types are kept. -/
def KT (w0 W : World) : Prop := ∀ k t cs, t ≠ 115 → t ≠ 75 → t ≠ 5 → Blk w0 k t cs → Blk W k t cs
theorem KT.refl (w : World) : KT w w := fun _ _ _ _ _ _ h => h
theorem KT.trans {a b c : World} (h : KT a b) (h2 : KT b c) : KT a c := fun k t cs x y z hb => h2 k t cs x y z (h k t cs x y z hb)
theorem KT.drewN {w0 W : World} (h : KT w0 W) (n : Nat) : KT w0 (W.drewN n) := fun k t cs x y z hb => (h k t cs x y z hb).drewN n
theorem KT.alloc {w0 W : World} (h : KT w0 W) (o : Obj) : KT w0 (W.alloc o) := fun k t cs x y z hb => (h k t cs x y z hb).alloc o
theorem KT.src {w0 W : World} (h : KT w0 W) {g i : Nat} {cs : List Value} (hg : Blk W g 115 cs) (v : Value) : KT w0 (W.setCell ⟨g, i, none⟩ v) := fun k t cs x y z hb => (h k t cs x y z hb).far ((h k t cs x y z hb).ne_ hg x) v
theorem KT.drp {w0 W : World} (h : KT w0 W) {g i : Nat} {cs : List Value} (hg : Blk W g 75 cs) (v : Value) : KT w0 (W.setCell ⟨g, i, none⟩ v) := fun k t cs x y z hb => (h k t cs x y z hb).far ((h k t cs x y z hb).ne_ hg y) v
theorem KT.grown {w0 W W2 : World} (h : KT w0 W) {g : Nat} {cs : List Value} (hb : Blk W g 5 cs) (hg : W.grownBy W2 (some g)) : KT w0 W2 := fun k t cs x y z hk => (h k t cs x y z hk).grown hg (fun e => (h k t cs x y z hk).ne_ hb z (by injection e))
/-- The row that it lies on is of bytes. -/
def A8 (W : World) (Ad : Option Addr) : Prop := ∀ ad, Ad = some ad → ∃ cs, Blk W ad.block 5 cs
theorem A8.drewN {W : World} {Ad : Option Addr} (h : A8 W Ad) (n : Nat) : A8 (W.drewN n) Ad := fun ad e => (h ad e).imp fun _ hb => hb.drewN n
theorem A8.alloc {W : World} {Ad : Option Addr} (h : A8 W Ad) (o : Obj) : A8 (W.alloc o) Ad := fun ad e => (h ad e).imp fun _ hb => hb.alloc o
theorem A8.set_ {W : World} {Ad : Option Addr} (h : A8 W Ad) {g i : Nat} {t : TypeId} {cs : List Value} (hg : Blk W g t cs) (ht : 5 ≠ t) (v : Value) : A8 (W.setCell ⟨g, i, none⟩ v) Ad := fun ad e => (h ad e).imp fun _ hb => hb.far (hb.ne_ hg ht) v
theorem A8.grown {W W2 : World} {Ad : Option Addr} (h : A8 W Ad) {row : Option Nat} (hg : W.grownBy W2 row) (hr : ∀ ad, Ad = some ad → some ad.block ≠ row) : A8 W2 Ad := fun ad e => (h ad e).imp fun _ hb => hb.grown hg (hr ad e)
/-- A source's memory: what lies in the room, taken (old) and not yet (ahead), and what is still to come (rest). -/
structure SS (w0 W : World) (B gs gd sz : Nat) (ch : Int) (vr : Value) (old ahead rest : List Int) (Ad : Option Addr) (cd : Nat) : Prop where
  src : Blk W gs 115 [.iface 72 (.pointer (some ⟨gd, 0, none⟩)), vr, .int .i64 old.length, .int .i64 sz, .nilIface]
  drp : Blk W gd 75 [.slice Ad rest.length cd, .int .i64 ch]
  rd : Reads W W.heap.size 1 Ad rest.length (bs rest)
  room : Room W B sz vr (old ++ ahead)
  far : ∀ ad, Ad = some ad → some ad.block ≠ vr.ownBlock ∧ ad.block ≠ gs ∧ ad.block ≠ gd
  dc : rest.length ≤ cd
  dm : cd ≤ maxLen
  lo : 16 ≤ sz
  hi : sz ≤ 65536
  c0 : 1 ≤ ch
  c1 : ch ≤ 65536
  bs_ : B ≤ gs
  bd : B ≤ gd
  bel : Below B w0 W
  bsz : B ≤ W.heap.size
  kt : KT w0 W
  a8 : A8 W Ad
theorem SS.drewN {w0 W : World} {B gs gd sz : Nat} {ch : Int} {vr : Value} {old ahead rest : List Int} {Ad : Option Addr} {cd : Nat} (h : SS w0 W B gs gd sz ch vr old ahead rest Ad cd) (n : Nat) : SS w0 (W.drewN n) B gs gd sz ch vr old ahead rest Ad cd := by
  refine ⟨h.src.drewN n, h.drp.drewN n, h.rd.drewN n, ?_, h.far, h.dc, h.dm, h.lo, h.hi, h.c0, h.c1, h.bs_, h.bd, below_drewN h.bel n, h.bsz, h.kt.drewN n, h.a8.drewN n⟩
  rcases h.room with ⟨a, b⟩ | ⟨g, cs, hv, hb, hx⟩
  · exact .inl ⟨a, b⟩
  · exact .inr ⟨g, cs, hv, hb.drewN n, hx⟩
/-- What 'more' leaves: so many bytes lie ahead. -/
def MR (w0 : World) (B gs gd sz n : Nat) (ch : Int) (tot : List Int) (e : Ending) (W' : World) : Prop :=
  e = .returned (.tuple #[]) ∧ ∃ vr old ahead rest Ad cd, SS w0 W' B gs gd sz ch vr old ahead rest Ad cd ∧ ahead ++ rest = tot ∧ n ≤ ahead.length
theorem ss_cells {w0 W : World} {B gs gd sz : Nat} {ch : Int} {vr : Value} {old ahead rest : List Int} {Ad : Option Addr} {cd : Nat} (h : SS w0 W B gs gd sz ch vr old ahead rest Ad cd) :
    W.cell? ⟨gs, 0, none⟩ = some (.iface 72 (.pointer (some ⟨gd, 0, none⟩))) ∧ W.cell? ⟨gs, 1, none⟩ = some vr ∧ W.cell? ⟨gs, 2, none⟩ = some (.int .i64 old.length) ∧ W.cell? ⟨gs, 3, none⟩ = some (.int .i64 sz) ∧ W.cell? ⟨gs, 4, none⟩ = some .nilIface :=
  ⟨h.src.cell 0, h.src.cell 1, h.src.cell 2, h.src.cell 3, h.src.cell 4⟩
theorem step_copy_0 {P : Program} {ops : Array Oper} {o : Oper} {a : Act} {w : World} {K : Act → World → Prop} {Q : Exit → Act → World → Prop} {E : Prop} (hgd : o.guard = none) (d s : Operand) (dT sT : TypeId)
    (ho : o.op = .call { callee := .builtin .copy, args := #[d, s], argTypes := #[dT, sT] }) (elem : TypeId) (hu : P.underlying dT = some (.slice elem)) (hsz : (P.info? elem).map (·.size) = some 1)
    (dp sp : Option Addr) (dLen dCap sLen sCap : Nat) (hd : a.eval d = .slice dp dLen dCap) (hs : a.eval s = .slice sp sLen sCap) (hn : Nat.min sLen dLen = 0)
    (h : K (a.put o.dst (goInt 0)) w) :
    if Region.wanted o (yielded ops a.tmps) = true then Oper.wp P o a w K Q else E := by
  have hw : Region.wanted o (yielded ops a.tmps) = true := by simp [Region.wanted, hgd]
  rw [if_pos hw]
  have hrun := run_copy_none (P := P) w dT sT o.type elem dp sp dLen dCap sLen sCap hu hsz hn
  unfold Oper.wp
  simp [execOp, ho, resolve, invoke, builtin, hd, hs, hrun, Result.andThen]
  exact h

set_option maxHeartbeats 4000000 in
set_option maxRecDepth 100000 in
theorem more_have (w0 W : World) (B gs gd sz : Nat) (ch : Int) (vr : Value) (old ahead rest : List Int) (Ad : Option Addr) (cd n : Nat) (h : SS w0 W B gs gd sz ch vr old ahead rest Ad cd) (hn : n ≤ ahead.length) :
    Calls Tryd.prog 49 #[.pointer (some ⟨gs, 0, none⟩), .int .i64 n] W (MR w0 B gs gd sz n ch (ahead ++ rest)) := by
  obtain ⟨q0, q1, q2, q3, q4⟩ := ss_cells h
  have hlen : (old ++ ahead).length = old.length + ahead.length := List.length_append
  have H := Lib.hid h
  have hroom := h.room
  clear h
  rcases hroom with ⟨rfl, hla⟩ | ⟨g, cs, rfl, hb, ht, hl, hB, hc⟩
  · obtain ⟨rfl, rfl⟩ := List.append_eq_nil_iff.1 hla
    obtain rfl : n = 0 := by simpa using hn
    have hw0 : IntKind.i64.wrap 0 = 0 := by decide
    go_enter Tryd.func49, Tryd.ntmps49
    go_wp2
    go_quiet (fail)
    go_wp2
    go_end0
    exact ⟨rfl, _, _, _, _, _, _, H.out.drewN _, rfl, hn⟩
  · obtain ⟨N, hN⟩ : ∃ N, (old ++ ahead).length = N := ⟨_, rfl⟩
    rw [hN] at q1 hlen hl
    have hd : decide ((n : Int) ≤ (N : Int) - (old.length : Int)) = true := decide_eq_true (by omega)
    have hcs : cs.length ≤ 196608 := by have := H.out.hi; omega
    have hwr : IntKind.i64.wrap ((N : Int) - (old.length : Int)) = (N : Int) - (old.length : Int) := by rw [IntKind.wrap_i64]; omega
    clear hb ht hN hlen
    go_enter Tryd.func49, Tryd.ntmps49
    go_wp2
    go_quiet (fail)
    go_wp2
    go_end0
    exact ⟨rfl, _, _, _, _, _, _, H.out.drewN _, rfl, hn⟩

/-- How much is still to come, as the memory tells. -/
def leftOf (gd : Nat) (W : World) : Nat := match W.cell? ⟨gd, 0, none⟩ with | some (.slice _ n _) => n | _ => 0
/-- Behind the move of what lies ahead to the room's front, ahead of the place's reset. -/
def SC (w0 W : World) (B gs gd sz : Nat) (ch : Int) (at_ : Nat) (ahead rest : List Int) (Ad : Option Addr) (cd : Nat) : Prop :=
  ∃ vr, Blk W gs 115 [.iface 72 (.pointer (some ⟨gd, 0, none⟩)), vr, .int .i64 at_, .int .i64 sz, .nilIface] ∧ SS w0 (W.setCell ⟨gs, 2, none⟩ (.int .i64 0)) B gs gd sz ch vr [] ahead rest Ad cd
theorem sc_nil {w0 W : World} {B gs gd sz : Nat} {ch : Int} {rest : List Int} {Ad : Option Addr} {cd : Nat} (h : SS w0 W B gs gd sz ch (.slice none 0 0) [] [] rest Ad cd) (n : Nat) :
    SC w0 ((W.drewN n).setCell ⟨gs, 1, none⟩ (.slice none 0 0)) B gs gd sz ch 0 [] rest Ad cd := by
  have e : gd ≠ gs := h.drp.ne_ h.src (by decide)
  refine ⟨.slice none 0 0, (h.src.drewN n).set_ 1 _, ((h.src.drewN n).set_ 1 _).set_ 2 _, ((h.drp.drewN n).far e _).far e _, ?_, .inl ⟨rfl, rfl⟩, h.far, h.dc, h.dm, h.lo, h.hi, h.c0, h.c1, h.bs_, h.bd, (((below_drewN h.bel n).setCell (p := ⟨gs, 1, none⟩) h.bs_ _).setCell (p := ⟨gs, 2, none⟩) h.bs_ _), ?_, ((h.kt.drewN n).src (h.src.drewN n) _).src ((h.src.drewN n).set_ 1 _) _, ((h.a8.drewN n).set_ (h.src.drewN n) (by decide) _).set_ ((h.src.drewN n).set_ 1 _) (by decide) _⟩
  · have := reads_far (W' := ((W.drewN n).setCell ⟨gs, 1, none⟩ (.slice none 0 0)).setCell ⟨gs, 2, none⟩ (.int .i64 0)) h.rd (fun ad hA _ => by
      have hx := (h.far ad hA).2.1
      exact (Below.heap_setCell _ ⟨gs, 2, none⟩ _ ad.block hx).trans (Below.heap_setCell _ ⟨gs, 1, none⟩ _ ad.block hx))
    simpa [World.setCell] using this
  · have := h.bsz
    simpa [World.setCell] using this

theorem room_at {W : World} {g : Nat} {cs : List Value} {old ahead : List Int} (hb : Blk W g 5 cs) (ht : cs.take (old ++ ahead).length = bs (old ++ ahead)) (j : Nat) (v : Value) (h : (bs ahead)[j]? = some v) : W.cell? ((⟨g, old.length, none⟩ : Addr).add j) = some v := by
  have hj : j < ahead.length := by
    have := (List.getElem?_eq_some_iff.1 h).1
    rwa [bs_length] at this
  have e : (cs.take (old ++ ahead).length)[old.length + j]? = cs[old.length + j]? := by rw [List.getElem?_take, if_pos (by rw [List.length_append]; omega)]
  rw [add_lit, hb.cell, ← e, ht, bs_append, List.getElem?_append_right (by rw [bs_length]; omega), bs_length, Nat.add_sub_cancel_left]
  exact h
theorem splice_take (cs : List Value) (n : Nat) (news : List Value) (h : n + news.length ≤ cs.length) : (splice cs n news).take (n + news.length) = cs.take n ++ news := by
  unfold splice
  rw [← List.append_assoc, List.take_left' (by simp; omega)]
theorem sc_row {w0 W W2 : World} {B gs gd sz g m : Nat} {ch : Int} {N : Nat} {old ahead rest : List Int} {Ad : Option Addr} {cd : Nat} {cs : List Value} (h : SS w0 W B gs gd sz ch (.slice (some ⟨g, 0, none⟩) N cs.length) old ahead rest Ad cd)
    (hgs : g ≠ gs) (hB : B ≤ g) (hc : cs.length = sz ∨ cs.length = 3 * sz) (hl : ahead.length ≤ cs.length) (hb2 : Blk W2 g 5 (splice cs 0 (bs ahead))) (hg2 : (W.drewN m).grownBy W2 (some g)) (hgb : Blk W g 5 cs) :
    SC w0 (W2.setCell ⟨gs, 1, none⟩ (.slice (some ⟨g, 0, none⟩) ahead.length cs.length)) B gs gd sz ch old.length ahead rest Ad cd := by
  have e : gd ≠ gs := h.drp.ne_ h.src (by decide)
  have eg : g ≠ gd := hgb.ne_ h.drp (by decide)
  have hs2 : Blk W2 gs 115 _ := (h.src.drewN m).grown hg2 (fun e => hgs (by injection e with e; exact e.symm))
  have hd2 : Blk W2 gd 75 _ := (h.drp.drewN m).grown hg2 (fun e => eg (by injection e with e; exact e.symm))
  have hls : (splice cs 0 (bs ahead)).length = cs.length := length_splice _ _ _ (by rw [bs_length]; omega)
  refine ⟨_, hs2.set_ 1 _, (hs2.set_ 1 _).set_ 2 _, (hd2.far e _).far e _, ?_, ?_, fun ad hA => ?_, h.dc, h.dm, h.lo, h.hi, h.c0, h.c1, h.bs_, h.bd, ?_, ?_, (((h.kt.drewN m).grown (hgb.drewN m) hg2).src hs2 _).src (hs2.set_ 1 _) _, (((h.a8.drewN m).grown hg2 (fun ad hA => (h.far ad hA).1)).set_ hs2 (by decide) _).set_ (hs2.set_ 1 _) (by decide) _⟩
  · have := reads_far (W' := (W2.setCell ⟨gs, 1, none⟩ (.slice (some ⟨g, 0, none⟩) ahead.length cs.length)).setCell ⟨gs, 2, none⟩ (.int .i64 0)) h.rd (fun ad hA hlt => by
      obtain ⟨x1, x2, _⟩ := h.far ad hA
      exact ((Below.heap_setCell _ ⟨gs, 2, none⟩ _ ad.block x2).trans (Below.heap_setCell _ ⟨gs, 1, none⟩ _ ad.block x2)).trans (hg2.block ad.block hlt (fun e => x1 (by simpa [Value.ownBlock] using e))))
    have hsz : ((W2.setCell ⟨gs, 1, none⟩ (.slice (some ⟨g, 0, none⟩) ahead.length cs.length)).setCell ⟨gs, 2, none⟩ (.int .i64 0)).heap.size = W2.heap.size := by simp [World.setCell]
    rw [hsz]
    exact this.more hg2.size
  · refine .inr ⟨g, splice cs 0 (bs ahead), by rw [hls]; rfl, (hb2.far hgs _).far hgs _, ?_, by rw [hls]; exact hl, hB, by rw [hls]; exact hc⟩
    have := splice_take cs 0 (bs ahead) (by rw [bs_length]; omega)
    rw [bs_length, Nat.zero_add, List.take_zero, List.nil_append] at this
    exact this
  · exact h.far ad hA
  · exact (((below_drewN h.bel m).grown hg2 h.bsz (fun k hk => by injection hk with e; omega)).setCell (p := ⟨gs, 1, none⟩) h.bs_ _).setCell (p := ⟨gs, 2, none⟩) h.bs_ _
  · have h1 := h.bsz
    have h2 := hg2.size
    have h3 : (W.drewN m).heap.size = W.heap.size := rfl
    simp only [World.setCell, Array.size_modify]
    omega

theorem room_form {W : World} {B sz : Nat} {v : Value} {l : List Int} (h : Room W B sz v l) (hi : sz ≤ 65536) : ∃ A c, v = .slice A l.length c ∧ c ≤ 196608 ∧ l.length ≤ c := by
  rcases h with ⟨rfl, rfl⟩ | ⟨g, cs, rfl, _, _, hl, _, hc⟩
  · exact ⟨none, 0, rfl, by omega, Nat.le_refl _⟩
  · exact ⟨_, cs.length, rfl, by omega, hl⟩
theorem room_cases {W : World} {B sz : Nat} {A : Option Addr} {c : Nat} {l : List Int} (h : Room W B sz (.slice A l.length c) l) : (A = none ∧ c = 0 ∧ l = []) ∨ ∃ g cs, A = some ⟨g, 0, none⟩ ∧ c = cs.length ∧ Blk W g 5 cs ∧ cs.take l.length = bs l ∧ B ≤ g ∧ (cs.length = sz ∨ cs.length = 3 * sz) := by
  rcases h with ⟨hv, hl⟩ | ⟨g, cs, hv, hb, ht, _, hB, hc⟩
  · injection hv with e1 e2 e3
    exact .inl ⟨e1, e3, hl⟩
  · injection hv with e1 e2 e3
    exact .inr ⟨g, cs, e1, e3, hb, ht, hB, hc⟩
theorem made_bytes (k C : Nat) (hk : k ≤ C) (hC : C ≤ 281474976710656) : ∃ Z : List Value, Z.length = C ∧ ∀ w, (Instr.makeSlice 27 (.int .i64 (k : Int)) (.int .i64 (C : Int))).run Tryd.prog w = .ok (.slice (some ⟨w.heap.size, 0, none⟩) k C) (w.alloc (.cells Z.toArray 5)) := by
  obtain ⟨i0, hi0, hz0, hz1, hz2⟩ := info_parts infoU8
  refine ⟨(madeCells (Value.int .u8 0).cells (C * 1)).toList, by rw [Array.length_toList, size_madeCells]; omega, fun w => ?_⟩
  have := run_make (P := Tryd.prog) w 27 5 i0 _ Tryd.underlying27 hi0 hz0 .i64 .i64 (k : Int) (C : Int) (by omega) (by omega) (by rw [hz2]; omega) (by omega)
  rw [hz1] at this
  simpa using this
theorem left_of {w0 W : World} {B gs gd sz : Nat} {ch : Int} {vr : Value} {old ahead rest : List Int} {Ad : Option Addr} {cd : Nat} (h : SS w0 W B gs gd sz ch vr old ahead rest Ad cd) : leftOf gd W = rest.length := by
  unfold leftOf
  have := h.drp.cell 0
  simp only [List.getElem?_cons_zero] at this
  rw [this]
theorem ss_read {w0 W W2 W3 : World} {B gs gd sz g m T : Nat} {ch : Int} {ah rs : List Int} {Ad Ad3 : Option Addr} {cd cd3 : Nat} {cm : List Value} {u : Value} (h : SS w0 W B gs gd sz ch (.slice (some ⟨g, 0, none⟩) ah.length cm.length) [] ah rs Ad cd)
    (hb : Blk W g 5 cm) (ht : cm.take ah.length = bs ah) (hB : B ≤ g) (hc : cm.length = sz ∨ cm.length = 3 * sz) (hfit : ah.length + sz ≤ cm.length) (hT : T ≤ rs.length) (hTs : T ≤ sz)
    (hd3 : Blk W3 gd 75 [.slice Ad3 (rs.drop T).length cd3, .int .i64 ch]) (hdc : (rs.drop T).length ≤ cd3) (hdm : cd3 ≤ maxLen) (hA3 : ∀ ad, Ad3 = some ad → ∃ a0, Ad = some a0 ∧ ad.block = a0.block) (hr3 : Reads W3 W.heap.size 1 Ad3 (rs.drop T).length (bs (rs.drop T)))
    (hb3 : Blk W3 g 5 (splice cm ah.length (bs (rs.take T)))) (hg2 : (W.drewN m).grownBy W2 (some g)) (e3 : W3 = W2.setCell ⟨gd, 0, none⟩ u) :
    SS w0 ((W3.setCell ⟨gs, 1, none⟩ (.slice (some ⟨g, 0, none⟩) (ah.length + T) cm.length)).setCell ⟨gs, 4, none⟩ .nilIface) B gs gd sz ch (.slice (some ⟨g, 0, none⟩) (ah.length + T) cm.length) [] (ah ++ rs.take T) (rs.drop T) Ad3 cd3 := by
  have e : gd ≠ gs := h.drp.ne_ h.src (by decide)
  have eg : g ≠ gd := hb.ne_ h.drp (by decide)
  have hgs : g ≠ gs := hb.ne_ h.src (by decide)
  have hlt : (rs.take T).length = T := by rw [List.length_take]; omega
  have hs2 : Blk W2 gs 115 _ := (h.src.drewN m).grown hg2 (fun e => hgs (by injection e with e; exact e.symm))
  have hs3 := hs2.far (p := ⟨gd, 0, none⟩) (fun x => e x.symm) u
  rw [← e3] at hs3
  have hls : (splice cm ah.length (bs (rs.take T))).length = cm.length := length_splice _ _ _ (by rw [bs_length, hlt]; omega)
  have far3 : ∀ ad, Ad3 = some ad → some ad.block ≠ (Value.slice (some ⟨g, 0, none⟩) (ah.length + T) cm.length).ownBlock ∧ ad.block ≠ gs ∧ ad.block ≠ gd := fun ad hA => by
    obtain ⟨a0, hA0, hbk⟩ := hA3 ad hA
    rw [hbk]
    exact h.far a0 hA0
  have hsz3 : W.heap.size ≤ W3.heap.size := by
    rw [e3]
    have h2 := hg2.size
    have h3 : (W.drewN m).heap.size = W.heap.size := rfl
    simp only [World.setCell, Array.size_modify]
    omega
  have hd2 : Blk W2 gd 75 _ := (h.drp.drewN m).grown hg2 (fun e => eg (by injection e with e; exact e.symm))
  have kt2 : KT w0 W2 := (h.kt.drewN m).grown (hb.drewN m) hg2
  have kt3 : KT w0 W3 := by
    rw [e3]
    exact kt2.drp hd2 _
  have a83 : A8 W3 Ad3 := fun ad hA => by
    obtain ⟨a0, hA0, hbk⟩ := hA3 ad hA
    obtain ⟨cs0, hb0⟩ := h.a8 a0 hA0
    rw [hbk, e3]
    exact ⟨cs0, ((hb0.drewN m).grown hg2 (h.far a0 hA0).1).far (h.far a0 hA0).2.2 _⟩
  refine ⟨(hs3.set_ 1 _).set_ 4 _, (hd3.far e _).far e _, ?_, ?_, far3, hdc, hdm, h.lo, h.hi, h.c0, h.c1, h.bs_, h.bd, ?_, ?_, (kt3.src hs3 _).src (hs3.set_ 1 _) _, (a83.set_ hs3 (by decide) _).set_ (hs3.set_ 1 _) (by decide) _⟩
  · have := reads_far (W' := (W3.setCell ⟨gs, 1, none⟩ (.slice (some ⟨g, 0, none⟩) (ah.length + T) cm.length)).setCell ⟨gs, 4, none⟩ .nilIface) hr3 (fun ad hA _ =>
      (Below.heap_setCell _ ⟨gs, 4, none⟩ _ ad.block (far3 ad hA).2.1).trans (Below.heap_setCell _ ⟨gs, 1, none⟩ _ ad.block (far3 ad hA).2.1))
    have hsz : ((W3.setCell ⟨gs, 1, none⟩ (.slice (some ⟨g, 0, none⟩) (ah.length + T) cm.length)).setCell ⟨gs, 4, none⟩ .nilIface).heap.size = W3.heap.size := by simp [World.setCell]
    rw [hsz]
    exact this.more hsz3
  · have hla : ([] ++ (ah ++ rs.take T)).length = ah.length + T := by rw [List.nil_append, List.length_append, hlt]
    refine .inr ⟨g, splice cm ah.length (bs (rs.take T)), by rw [hls, hla], (hb3.far hgs _).far hgs _, ?_, by rw [hls, hla]; omega, hB, by rw [hls]; exact hc⟩
    have := splice_take cm ah.length (bs (rs.take T)) (by rw [bs_length, hlt]; omega)
    rw [bs_length, hlt, ht] at this
    rw [hla, this, List.nil_append, bs_append]
  · refine (Below.setCell (p := ⟨gs, 1, none⟩) ?_ h.bs_ _).setCell (p := ⟨gs, 4, none⟩) h.bs_ _
    rw [e3]
    exact ((below_drewN h.bel m).grown hg2 h.bsz (fun k hk => by injection hk with e; omega)).setCell (p := ⟨gd, 0, none⟩) h.bd _
  · have h1 := h.bsz
    simp only [World.setCell, Array.size_modify]
    omega
theorem ss_alloc {w0 W : World} {B gs gd sz m : Nat} {ch : Int} {vr : Value} {old ah rs : List Int} {Ad : Option Addr} {cd : Nat} {Z : List Value} (h : SS w0 W B gs gd sz ch vr old ah rs Ad cd) (hne : 0 < rs.length) :
    SS w0 ((W.drewN m).alloc (.cells Z.toArray 5)) B gs gd sz ch vr old ah rs Ad cd ∧ Blk ((W.drewN m).alloc (.cells Z.toArray 5)) W.heap.size 5 Z ∧ (∀ ad, Ad = some ad → ad.block ≠ W.heap.size) ∧ B ≤ W.heap.size := by
  have hs : (W.drewN m).heap.size = W.heap.size := rfl
  refine ⟨⟨(h.src.drewN m).alloc _, (h.drp.drewN m).alloc _, ((h.rd.drewN m).alloc (by rw [hs]; exact Nat.le_refl _) _).more (by simp [World.alloc]), ?_, h.far, h.dc, h.dm, h.lo, h.hi, h.c0, h.c1, h.bs_, h.bd, (below_drewN h.bel m).alloc (by rw [hs]; exact h.bsz) _, by have := h.bsz; simp only [World.alloc, Array.size_push]; omega, (h.kt.drewN m).alloc _, (h.a8.drewN m).alloc _⟩, Blk.new (W.drewN m) _ _, fun ad hA e => ?_, h.bsz⟩
  · rcases h.room with ⟨a, b⟩ | ⟨g, cs, hv, hb, hx⟩
    · exact .inl ⟨a, b⟩
    · exact .inr ⟨g, cs, hv, (hb.drewN m).alloc _, hx⟩
  · obtain ⟨a2, e2, hl, _⟩ := h.rd.2 hne
    rw [hA] at e2
    injection e2 with e2
    subst e2
    omega
theorem ss_made {w0 W W5 : World} {B gs gd sz m j gz C c3 : Nat} {ch : Int} {A3 : Option Addr} {ah rs : List Int} {Ad : Option Addr} {cd : Nat} {Z : List Value} (h : SS w0 W B gs gd sz ch (.slice A3 ah.length c3) [] ah rs Ad cd)
    (hz : Blk W gz 5 Z) (hZ : Z.length = C) (hC : C = sz ∨ C = 3 * sz) (hl : ah.length ≤ C) (hB : B ≤ gz) (hA : ∀ ad, Ad = some ad → ad.block ≠ gz) (hg : (W.drewN m).grownBy W5 (some gz)) (hb : Blk W5 gz 5 (splice Z 0 (bs ah))) :
    SS w0 ((W5.drewN j).setCell ⟨gs, 1, none⟩ (.slice (some ⟨gz, 0, none⟩) ah.length C)) B gs gd sz ch (.slice (some ⟨gz, 0, none⟩) ah.length C) [] ah rs Ad cd := by
  have e : gd ≠ gs := h.drp.ne_ h.src (by decide)
  have eg : gz ≠ gd := hz.ne_ h.drp (by decide)
  have hgs : gz ≠ gs := hz.ne_ h.src (by decide)
  have hs2 : Blk W5 gs 115 _ := (h.src.drewN m).grown hg (fun e => hgs (by injection e with e; exact e.symm))
  have hd2 : Blk W5 gd 75 _ := (h.drp.drewN m).grown hg (fun e => eg (by injection e with e; exact e.symm))
  have hls : (splice Z 0 (bs ah)).length = C := by rw [length_splice _ _ _ (by rw [bs_length]; omega), hZ]
  have hsz : W.heap.size ≤ ((W5.drewN j).setCell ⟨gs, 1, none⟩ (.slice (some ⟨gz, 0, none⟩) ah.length C)).heap.size := by
    have h2 := hg.size
    have h3 : (W.drewN m).heap.size = W.heap.size := rfl
    have h4 : (W5.drewN j).heap.size = W5.heap.size := rfl
    simp only [World.setCell, Array.size_modify]
    omega
  refine ⟨(hs2.drewN j).set_ 1 _, (hd2.drewN j).far e _, ?_, ?_, fun ad hA2 => ⟨fun e2 => hA ad hA2 (by simpa [Value.ownBlock] using e2), (h.far ad hA2).2⟩, h.dc, h.dm, h.lo, h.hi, h.c0, h.c1, h.bs_, h.bd, ?_, Nat.le_trans h.bsz hsz, (((h.kt.drewN m).grown (hz.drewN m) hg).drewN j).src (hs2.drewN j) _, (((h.a8.drewN m).grown hg (fun ad hA2 e => hA ad hA2 (by injection e))).drewN j).set_ (hs2.drewN j) (by decide) _⟩
  · exact (reads_far (W' := (W5.drewN j).setCell ⟨gs, 1, none⟩ (.slice (some ⟨gz, 0, none⟩) ah.length C)) h.rd (fun ad hA2 hlt =>
      (Below.heap_setCell _ ⟨gs, 1, none⟩ _ ad.block (h.far ad hA2).2.1).trans (hg.block ad.block hlt (fun e => hA ad hA2 (by injection e))))).more hsz
  · refine .inr ⟨gz, splice Z 0 (bs ah), by rw [hls]; rfl, (hb.drewN j).far hgs _, ?_, by rw [hls]; exact hl, hB, by rw [hls]; exact hC⟩
    have := splice_take Z 0 (bs ah) (by rw [bs_length]; omega)
    rw [bs_length, Nat.zero_add, List.take_zero, List.nil_append] at this
    exact this
  · exact (below_drewN ((below_drewN h.bel m).grown hg h.bsz (fun k hk => by injection hk with e; omega)) j).setCell (p := ⟨gs, 1, none⟩) h.bs_ _
theorem gen_code {C : Code} {Q : Exit → Act → World → Prop} {a : Act} {w : World} (F : World → Prop) (h : F w) (k : ∀ W, F W → Code.wp Tryd.prog C Q a W) : Code.wp Tryd.prog C Q a w := k w h
theorem gen_world {K : Act → World → Prop} {Q : Exit → Act → World → Prop} {a : Act} {w : World} (F : World → Prop) (h : F w) (k : ∀ W, F W → Exit.then K Q .normal a W) : Exit.then K Q .normal a w := k w h
theorem nil_ahead_d (a : Addr) (w : World) (fuel : Nat) : (nilAhead (fuel + 1) 72 (.pointer (some a)) "Read").run Tryd.prog w = .ok (some false) w := by kernel_rfl
theorem method_read (a : Addr) (w : World) (fuel : Nat) : (method (fuel + 1) 72 (.pointer (some a)) "Read").run Tryd.prog w = .ok (77, .pointer (some a)) w := by kernel_rfl

/-- A region of the code by its number. -/
def findReg (k : Nat) : Code → Option Code
  | .region n ops d => if n = k then some (.region n ops d) else none
  | .seq a b => match findReg k a with
    | some c => some c
    | none => findReg k b
  | .cond _ a b => match findReg k a with
    | some c => some c
    | none => findReg k b
  | .block _ c => findReg k c
  | .loop c => findReg k c
  | .scope c => findReg k c
  | _ => none
noncomputable def reg9 : Code := ((Tryd.f49.body.bind (findReg 9)).getD .skip)
/-- What Read's region leaves. -/
def RD9 (w0 : World) (B gs gd sz : Nat) (ch : Int) (g3 : Nat) (cm : List Value) (ah rs : List Int) (T : Nat) (w3 : World) : Prop :=
  1 ≤ T ∧ T ≤ sz ∧ T ≤ rs.length ∧ w3.cell? ⟨gs, 0, none⟩ = some (.iface 72 (.pointer (some ⟨gd, 0, none⟩))) ∧ w3.cell? ⟨gs, 1, none⟩ = some (.slice (some ⟨g3, 0, none⟩) ah.length cm.length) ∧ w3.cell? ⟨gs, 3, none⟩ = some (.int .i64 sz) ∧
  w3.cell? ⟨gs, 4, none⟩ = some .nilIface ∧ w3.frozen? ⟨gs, 1, none⟩ = false ∧ w3.frozen? ⟨gs, 4, none⟩ = false ∧ ∃ Ad cd, SS w0 ((w3.setCell ⟨gs, 1, none⟩ (.slice (some ⟨g3, 0, none⟩) (ah.length + T) cm.length)).setCell ⟨gs, 4, none⟩ .nilIface) B gs gd sz ch (.slice (some ⟨g3, 0, none⟩) (ah.length + T) cm.length) [] (ah ++ rs.take T) (rs.drop T) Ad cd
set_option maxHeartbeats 4000000 in
set_option maxRecDepth 1000000 in
theorem read9 (w0 wn : World) (B gs gd sz : Nat) (ch : Int) (g3 : Nat) (cm : List Value) (ah rs : List Int) (Ad3 : Option Addr) (cd3 : Nat) (c1 c2 c3 c5 c6 c7 c8 c9 c10 c11 c12 c13 c14 c15 c16 c17 c18 c19 c20 c21 c22 c23 c24 c25 c26 c27 c28 c29 c30 c31 c32 c33 c34 c35 c36 c37 c38 c39 c40 c41 c42 c43 c44 c45 c46 c47 c48 c49 c50 c51 c52 c53 c54 c55 c56 c57 c58 c59 c60 c61 c62 c63 c64 c65 c66 c67 c68 c69 c70 c71 c72 c73 c74 c75 c76 c77 c78 c79 c80 c81 c82 c83 c84 c85 c86 c87 c88 c89 c90 c91 c92 c93 c94 c95 c96 c97 c98 c99 c100 c101 c102 c103 c104 c105 c106 c107 c108 c109 c110 c111 c112 c113 c114 c115 c116 c117 c118 c119 c120 c121 c122 c123 c124 c125 c126 c127 c128 c129 c130 c131 c132 c133 c134 c135 c136 c137 c138 c139 c140 c141 c142 : Value) (K : Act → World → Prop) (Q' : Exit → Act → World → Prop)
    (hs : SS w0 wn B gs gd sz ch (.slice (some ⟨g3, 0, none⟩) ah.length cm.length) [] ah rs Ad3 cd3) (hb : Blk wn g3 5 cm) (ht : cm.take ah.length = bs ah) (hB3 : B ≤ g3) (hc3 : cm.length = sz ∨ cm.length = 3 * sz) (hfit : ah.length + sz ≤ cm.length) (hnar : 0 < rs.length) (hcm : cm.length ≤ 196608)
    (hK : ∀ (T : Nat) (e106 e107 e108 e109 e110 e111 e112 e113 e114 e115 e116 e117 e118 e119 e120 e121 e122 e123 e124 e125 e126 e127 : Value) (w3 : World), RD9 w0 B gs gd sz ch g3 cm ah rs T w3 → K ⟨#[.pointer (some ⟨gs, 0, none⟩), c1, c2, c3, .int .i64 (ah.length : Int), c5, .int .i64 (T : Int), .nilIface, c8, c9, c10, c11, c12, c13, c14, c15, c16, c17, c18, c19, c20, c21, c22, c23, c24, c25, c26, c27, c28, c29, c30, c31, c32, c33, c34, c35, c36, c37, c38, c39, c40, c41, c42, c43, c44, c45, c46, c47, c48, c49, c50, c51, c52, c53, c54, c55, c56, c57, c58, c59, c60, c61, c62, c63, c64, c65, c66, c67, c68, c69, c70, c71, c72, c73, c74, c75, c76, c77, c78, c79, c80, c81, c82, c83, c84, c85, c86, c87, c88, c89, c90, c91, c92, c93, c94, c95, c96, c97, c98, c99, c100, c101, c102, c103, c104, c105, e106, e107, e108, e109, e110, e111, e112, e113, e114, e115, e116, e117, e118, e119, e120, e121, e122, e123, e124, e125, e126, e127, c128, c129, c130, c131, c132, c133, c134, c135, c136, c137, c138, c139, c140, c141, c142], []⟩ w3) :
    Code.wp Tryd.prog reg9 (Exit.then K Q') ⟨#[.pointer (some ⟨gs, 0, none⟩), c1, c2, c3, .int .i64 (ah.length : Int), c5, c6, c7, c8, c9, c10, c11, c12, c13, c14, c15, c16, c17, c18, c19, c20, c21, c22, c23, c24, c25, c26, c27, c28, c29, c30, c31, c32, c33, c34, c35, c36, c37, c38, c39, c40, c41, c42, c43, c44, c45, c46, c47, c48, c49, c50, c51, c52, c53, c54, c55, c56, c57, c58, c59, c60, c61, c62, c63, c64, c65, c66, c67, c68, c69, c70, c71, c72, c73, c74, c75, c76, c77, c78, c79, c80, c81, c82, c83, c84, c85, c86, c87, c88, c89, c90, c91, c92, c93, c94, c95, c96, c97, c98, c99, c100, c101, c102, c103, c104, c105, c106, c107, c108, c109, c110, c111, c112, c113, c114, c115, c116, c117, c118, c119, c120, c121, c122, c123, c124, c125, c126, c127, c128, c129, c130, c131, c132, c133, c134, c135, c136, c137, c138, c139, c140, c141, c142], []⟩ wn := by
  obtain ⟨z0, z1, z2, z3, z4⟩ := ss_cells hs
  have HS3 := Lib.hid hs
  have HB3 := Lib.hid hb
  have HT3 := Lib.hid ht
  have HKK := Lib.hid hK
  have hlo := hs.lo
  have hsz1 : sz ≤ 65536 := hs.hi
  have hna := fun w fuel => nil_ahead_d ⟨gd, 0, none⟩ w fuel
  have hmr := fun w fuel => method_read ⟨gd, 0, none⟩ w fuel
  clear hs hb ht hK
  conv => arg 2; whnf
  obtain ⟨T, hT⟩ : ∃ T, atOnce sz rs ch = T := ⟨_, rfl⟩
  have hc01 := HS3.out.c0
  have hTe : T = min (min rs.length ch.toNat) sz := hT.symm
  have hT1 : T ≤ rs.length := by omega
  have hT2 : T ≤ sz := by omega
  have hT3 : 1 ≤ T := by omega
  clear hTe
  have hk0 : (0 : Int) ≤ (ah.length : Int) := by omega
  have hk1 : (ah.length : Int) ≤ (ah.length : Int) + (sz : Int) := by omega
  have hk2 : (ah.length : Int) + (sz : Int) ≤ (cm.length : Int) := by omega
  have hk3 : ((ah.length : Int)).toNat = ah.length := by omega
  have hk4 : ((ah.length : Int) + (sz : Int)).toNat = ah.length + sz := by omega
  have hk5 : IntKind.i64.wrap ((ah.length : Int) + (sz : Int)) = (ah.length : Int) + (sz : Int) := by rw [IntKind.wrap_i64]; omega
  have hk6 : ¬ cm.length = ah.length := by omega
  have hk7 : ah.length + sz - ah.length = sz := by omega
  have hl0 : (0 : Int) ≤ (ah.length : Int) + (T : Int) := by omega
  have hl2 : (ah.length : Int) + (T : Int) ≤ (cm.length : Int) := by omega
  have hl4 : ((ah.length : Int) + (T : Int)).toNat = ah.length + T := by omega
  have hl5 : IntKind.i64.wrap ((ah.length : Int) + (T : Int)) = (ah.length : Int) + (T : Int) := by rw [IntKind.wrap_i64]; omega
  have HTe := Lib.hid hT
  clear hT
  go_region_held3 (fun W' => W'.cell? ⟨gs, 0, none⟩ = some (.iface 72 (.pointer (some ⟨gd, 0, none⟩))) ∧ W'.cell? ⟨gs, 1, none⟩ = some (.slice (some ⟨g3, 0, none⟩) ah.length cm.length) ∧ W'.cell? ⟨gs, 3, none⟩ = some (.int .i64 sz)) (first | assumption | go_keep)
    (first
      | (go_at_call 77
         refine (dropsRead_calls wn.drew gd g3 wn.heap.size ah.length sz _ cd3 cm rs Ad3 ch (HS3.out.drp.drewN 1) (HS3.out.rd.drewN 1) HS3.out.dc HS3.out.dm (HB3.out.drewN 1) hnar (by omega) hfit (by simp only [maxLen]; omega) HS3.out.c0 HS3.out.c1 (Nat.le_refl _) (fun ad hA => ?_)).mono ?_
         · obtain ⟨x1, _, x3⟩ := HS3.out.far ad hA
           exact ⟨fun e => x1 (by rw [e]; rfl), x3⟩
         rintro e w3 hdr
         unfold DR at hdr
         rw [HTe.out] at hdr
         obtain ⟨rfl, Ad4, cd4, hd4, hdc4, hdm4, hA4, hr4, hb4, W2, m2, v2, hg2, e3⟩ := hdr
         have hg3 : (wn.drewN 0).grownBy W2 (some g3) := ⟨hg2.os, hg2.tape, hg2.output, hg2.size, hg2.block⟩
         have hgs3 : g3 ≠ gs := HB3.out.ne_ HS3.out.src (by decide)
         have hs2 : Blk W2 gs 115 _ := (HS3.out.src.drewN 0).grown hg3 (fun e => hgs3 (by injection e with e; exact e.symm))
         have hs4 := hs2.far (p := ⟨gd, 0, none⟩) (fun e => (HS3.out.drp.ne_ HS3.out.src (by decide)) e.symm) v2
         rw [← e3] at hs4
         have y0 := hs4.cell 0
         have y1 := hs4.cell 1
         have y2 := hs4.cell 2
         have y3 := hs4.cell 3
         have y4 := hs4.cell 4
         have fz1 := hs4.frozen 1
         have fz4 := hs4.frozen 4
         simp only [List.getElem?_cons_zero, List.getElem?_cons_succ] at y0 y1 y2 y3 y4
         have hS4 : w3.cell? ⟨gs, 0, none⟩ = some (.iface 72 (.pointer (some ⟨gd, 0, none⟩))) ∧ w3.cell? ⟨gs, 1, none⟩ = some (.slice (some ⟨g3, 0, none⟩) ah.length cm.length) ∧ w3.cell? ⟨gs, 3, none⟩ = some (.int .i64 sz) := ⟨y0, y1, y3⟩
         have HRD := Lib.hid (ss_read HS3.out HB3.out HT3.out hB3 hc3 hfit hT1 hT2 hd4 hdc4 hdm4 hA4 hr4 hb4 hg3 e3)
         clear hd4 hdc4 hdm4 hA4 hr4 hb4 hg2 hg3 e3 hs2 hs4))
  clear z0 z1 z2 z3 z4
  exact HKK.out T _ _ _ _ _ _ _ _ _ _ _ _ _ _ _ _ _ _ _ _ _ _ w3 ⟨hT3, hT2, hT1, hS4.1, hS4.2.1, hS4.2.2, y4, fz1, fz4, _, _, HRD.out⟩

set_option maxHeartbeats 4000000 in
set_option maxRecDepth 100000 in
theorem more_read (w0 W : World) (B gs gd sz : Nat) (ch : Int) (vr : Value) (old ahead rest : List Int) (Ad : Option Addr) (cd n : Nat) (h : SS w0 W B gs gd sz ch vr old ahead rest Ad cd) (hn0 : ahead.length < n) (hn1 : n ≤ ahead.length + rest.length) (hn16 : n ≤ 16) (N : Nat) (cap : Nat) (Ar : Option Addr) (hvr : vr = .slice Ar N cap) (hN : N = old.length + ahead.length) (hcap : cap ≤ 196608) (hNc : N ≤ cap) :
    Calls Tryd.prog 49 #[.pointer (some ⟨gs, 0, none⟩), .int .i64 n] W (MR w0 B gs gd sz n ch (ahead ++ rest)) := by
  obtain ⟨q0, q1, q2, q3, q4⟩ := ss_cells h
  subst hvr
  have f1 := h.src.frozen 1
  have hhi := h.hi
  have H := Lib.hid h
  clear h
  have hd : decide ((n : Int) ≤ (N : Int) - (old.length : Int)) = false := decide_eq_false (by omega)
  have hwr : IntKind.i64.wrap ((N : Int) - (old.length : Int)) = (N : Int) - (old.length : Int) := by rw [IntKind.wrap_i64]; omega
  have HN := Lib.hid hN
  clear hN
  go_enter Tryd.func49, Tryd.ntmps49
  go_wp2
  go_quiet (fail)
  go_wp2
  go_cut [26] from 27 (fun _ wx => SC w0 wx B gs gd sz ch old.length ahead rest Ad cd)
  case first =>
    rcases H.out.room with ⟨hv, hla⟩ | ⟨g, cs, hv, hb, ht, hl, hB, hc⟩
    · obtain ⟨rfl, rfl⟩ := List.append_eq_nil_iff.1 hla
      injection hv with e1 e2 e3
      subst e1 e2 e3
      have k1 := sc_nil H.out (nq + 1)
      obtain ⟨_, kb, _⟩ := k1
      go_region_held3 (fun W' => W'.cell? ⟨gs, 1, none⟩ = some (.slice none 0 0) ∧ W'.cell? ⟨gs, 2, none⟩ = some (.int .i64 0)) (first | assumption | go_keep | exact ⟨((H.out.src.drewN (nq + 1)).set_ 1 _).cell 1, ((H.out.src.drewN (nq + 1)).set_ 1 _).cell 2⟩)
        (first
          | (refine step_copy_0 rfl (.tmp 35) (.tmp 44) 27 27 rfl 5 Tryd.underlying27 (by kernel_rfl) _ _ _ _ _ _ rfl rfl rfl ?_))
      go_wp2
      go_meet
      exact sc_nil H.out (nq + 1)
    · injection hv with e1 e2 e3
      subst e1 e3
      have hNN := HN.out
      have hj0 : (0 : Int) ≤ (old.length : Int) := by omega
      have hj1 : (old.length : Int) ≤ (N : Int) := by omega
      have hj2 : (old.length : Int) ≤ (cs.length : Int) := by omega
      have hj3 : ((old.length : Int)).toNat = old.length := by omega
      have hj4 : N - old.length = ahead.length := by omega
      have hj5 : (0 : Int) ≤ (ahead.length : Int) := by omega
      have hj6 : (ahead.length : Int) ≤ (cs.length : Int) := by omega
      have hj7 : ((ahead.length : Int)).toNat = ahead.length := by omega
      have hj8 : old.length ≤ N := by omega
      have hj9 : old.length ≤ cs.length := by omega
      have hj10 : ahead.length ≤ cs.length := by omega
      have hgs : g ≠ gs := hb.ne_ H.out.src (by decide)
      have HB := Lib.hid hb
      have HT := Lib.hid ht
      clear hb ht hl hNN e2
      by_cases hca : cs.length = old.length
      all_goals
        try have hcb : (cs.length = old.length) = True := eq_true hca
        try have HCA : Hid (cs.length = old.length) := Lib.hid hca
        first | (have _h := HCA; clear hca) | skip
        go_region_law (
          (refine step_copy_g rfl (.tmp 35) (.tmp 44) 27 27 rfl 5 Tryd.underlying27 (by kernel_rfl) _ _ _ _ _ _ rfl rfl g 0 cs 5 (HB.out.drewN (nq + 1)) (bs ahead) ?_ ?_ ?_ (bs_one _) ?_
           · rw [bs_length]
             show _ = min _ _
             omega
           · intro h0
             rw [bs_length] at h0
             first
               | exact ⟨rfl, _, rfl, fun j v hv => room_at (HB.out.drewN (nq + 1)) HT.out j v hv⟩
               | (exfalso; have := HCA.out; omega)
           · rw [bs_length]; omega
           rw [bs_length]
           intro W2 HB2 hg2
           have hs2 : Blk W2 gs 115 _ := (H.out.src.drewN (nq + 1)).grown hg2 (fun e => hgs (by injection e with e; exact e.symm))
           have p1 := hs2.cell 1
           have p2 := hs2.cell 2
           have fz := hs2.frozen 1
           simp only [List.getElem?_cons_zero, List.getElem?_cons_succ] at p1 p2
           have HG2 := Lib.hid hg2
           clear hg2 hs2))
        all_goals
          go_wp2
          go_meet
          exact sc_row H.out hgs hB hc hj10 HB2.out HG2.out HB.out
  case rest =>
    obtain ⟨vr2, hsrc, hss⟩ := hcut
    have c2 := hsrc.cell 2
    have f2 := hsrc.frozen 2
    simp only [List.getElem?_cons_zero, List.getElem?_cons_succ] at c2
    have HSS := Lib.hid hss
    clear hss
    clear q0 q1 q2 q3 q4
    go_wp2
    go_loopw [] (fun wr => Hid (∃ vr ah rs Ad cd, SS w0 wr B gs gd sz ch vr [] ah rs Ad cd ∧ ah ++ rs = ahead ++ rest)) (fun wr => leftOf gd wr)
    case atStart => exact ⟨_, _, _, _, _, HSS.out, rfl⟩
    case round =>
      obtain ⟨vr3, ah, rs, Ad3, cd3, hs3, htot⟩ := hrel.out
      obtain ⟨A3, c3, rfl, hc3, hl3⟩ := room_form hs3.room hs3.hi
      simp only [List.nil_append] at hs3 hl3
      obtain ⟨z0, z1, z2, z3, z4⟩ := ss_cells hs3
      have HS3 := Lib.hid hs3
      have hlo := hs3.lo
      have hleft := left_of hs3
      have HTOT := Lib.hid htot
      clear htot
      by_cases hen : n ≤ ah.length
      · have hd2 : decide ((ah.length : Int) < (n : Int)) = false := decide_eq_false (by omega)
        clear hs3
        go_wp2
        go_end0
        exact ⟨rfl, _, _, _, _, _, _, HS3.out, HTOT.out, hen⟩
      · have hd2 : decide ((ah.length : Int) < (n : Int)) = true := decide_eq_true (by omega)
        have hrm := room_cases (by simpa using HS3.out.room)
        have hwc : IntKind.i64.wrap ((c3 : Int) - (ah.length : Int)) = (c3 : Int) - (ah.length : Int) := by rw [IntKind.wrap_i64]; omega
        have hsz1 : sz ≤ 65536 := HS3.out.hi
        have hnar : 0 < rs.length := by
          have := congrArg List.length HTOT.out
          simp only [List.length_append] at this
          omega
        have hna := fun w fuel => nil_ahead_d ⟨gd, 0, none⟩ w fuel
        have hmr := fun w fuel => method_read ⟨gd, 0, none⟩ w fuel
        clear hs3
        by_cases hmk : c3 < ah.length + sz
        · have hd3 : decide ((c3 : Int) - (ah.length : Int) < (sz : Int)) = true := decide_eq_true (by omega)
          have hcc : (c3 = 0 ∧ ah.length = 0) ∨ (c3 = sz ∧ 0 < ah.length) := by
            rcases hrm with ⟨_, rfl, rfl⟩ | ⟨g3, cm, _, rfl, _, _, _, hq⟩
            · exact .inl ⟨rfl, rfl⟩
            · right; omega
          obtain ⟨C, hC⟩ : ∃ C, C = 2 * c3 + sz := ⟨_, rfl⟩
          have hCs : C = sz ∨ C = 3 * sz := by omega
          have hCk : ah.length + sz ≤ C := by omega
          have hCm : C ≤ 196608 := by omega
          obtain ⟨Z, hZ, hmake⟩ := made_bytes ah.length C (by omega) (by omega)
          have hCf : IntKind.i64.wrap (2 * (c3 : Int)) = 2 * (c3 : Int) := by rw [IntKind.wrap_i64]; omega
          have hCg : IntKind.i64.wrap (2 * (c3 : Int) + (sz : Int)) = (C : Int) := by rw [IntKind.wrap_i64]; omega
          have HC := Lib.hid hC
          clear hC
          go_wp2
          go_quiet (fail)
          go_wp2
          have hgl : gs < wr.heap.size := HS3.out.src.lt
          clear hna hmr
          go_region_held3 (fun W' => W'.cell? ⟨gs, 0, none⟩ = some (.iface 72 (.pointer (some ⟨gd, 0, none⟩))) ∧ W'.cell? ⟨gs, 1, none⟩ = some (.slice A3 ah.length c3) ∧ W'.cell? ⟨gs, 3, none⟩ = some (.int .i64 sz)) (first | assumption | go_keep | exact ⟨(World.cell?_alloc_lt _ _ _ hgl).trans z0, (World.cell?_alloc_lt _ _ _ hgl).trans z1, (World.cell?_alloc_lt _ _ _ hgl).trans z3⟩)
            (first | fail)
          have hrs : 0 < ah.length → ∃ ad, A3 = some ad ∧ ad.block < wr.heap.size ∧ ∀ j v, (bs ah)[j]? = some v → wr.cell? (ad.add j) = some v := by
            intro h0
            rcases hrm with ⟨_, _, rfl⟩ | ⟨g3, cm, rfl, _, hb3, ht3, _, _⟩
            · exact absurd h0 (by simp)
            · exact ⟨_, rfl, hb3.lt, fun j v hv => room_at (old := []) (ahead := ah) hb3 (by simpa using ht3) j v hv⟩
          refine gen_world (fun W => SS w0 W B gs gd sz ch (.slice A3 ah.length c3) [] ah rs Ad3 cd3 ∧ Blk W wr.heap.size 5 Z ∧ (∀ ad, Ad3 = some ad → ad.block ≠ wr.heap.size) ∧ B ≤ wr.heap.size ∧ (0 < ah.length → ∃ ad, A3 = some ad ∧ ∀ j v, (bs ah)[j]? = some v → W.cell? (ad.add j) = some v)) ⟨(ss_alloc HS3.out hnar).1, (ss_alloc (m := nq + 1) (Z := Z) HS3.out hnar).2.1, (ss_alloc (m := nq + 1) (Z := Z) HS3.out hnar).2.2.1, (ss_alloc (m := nq + 1) (Z := Z) HS3.out hnar).2.2.2, fun h0 => ?_⟩ ?_
          · obtain ⟨ad, hA, hlt, hc⟩ := hrs h0
            exact ⟨ad, hA, fun j v hv => (World.cell?_alloc_lt _ _ _ (by rw [block_of_add]; exact hlt)).trans (hc j v hv)⟩
          rintro W4 ⟨hs4, hb4, hA4, hB4, hrd4⟩
          clear z0 z1 z2 z3 z4 hrs hrm
          obtain ⟨z0, z1, z2, z3, z4⟩ := ss_cells hs4
          have hgl4 := hs4.src.frozen 1
          have HS4 := Lib.hid hs4
          have HB4 := Lib.hid hb4
          have HRD4 := Lib.hid hrd4
          have HA4 := Lib.hid hA4
          clear hs4 hb4 hrd4 hA4 hmake
          have hgz : wr.heap.size ≠ gs := HB4.out.ne_ HS4.out.src (by decide)
          go_wp2_with (
            (with_reducible refine gate_dst (N := 101) rfl ?_)
            go_must (
              refine wpList_copy_g rfl (.tmp 96) (.tmp 100) 27 27 rfl 5 Tryd.underlying27 (by kernel_rfl) _ _ _ _ _ _ rfl rfl wr.heap.size 0 Z 5 HB4.out (bs ah) ?_ ?_ ?_ (bs_one _) ?_
              · rw [bs_length]
                show _ = min _ _
                omega
              · intro h0
                rw [bs_length] at h0
                exact ⟨rfl, HRD4.out h0⟩
              · rw [bs_length, hZ]; omega
              rw [bs_length]
              intro W5 HB5 hg5
              have hs5 : Blk W5 gs 115 _ := (HS4.out.src.drewN 0).grown hg5 (fun e => hgz (by injection e with e; exact e.symm))
              have fz5 := hs5.frozen 1
              have y5 := hs5.cell 1
              simp only [List.getElem?_cons_zero, List.getElem?_cons_succ] at y5
              have HG5 := Lib.hid hg5
              clear hg5 hs5))
          have hna := fun w fuel => nil_ahead_d ⟨gd, 0, none⟩ w fuel
          have hmr := fun w fuel => method_read ⟨gd, 0, none⟩ w fuel
          refine gen_code (fun W => SS w0 W B gs gd sz ch (.slice (some ⟨wr.heap.size, 0, none⟩) ah.length C) [] ah rs Ad3 cd3) (ss_made (m := 0) (j := 0) HS4.out HB4.out hZ hCs (by omega) hB4 HA4.out HG5.out HB5.out) ?_
          intro wn hs6
          clear z0 z1 z2 z3 z4 hgl4 HS4 HB4 HRD4 HA4 fz5 y5 HB5 HG5
          obtain ⟨z0, z1, z2, z3, z4⟩ := ss_cells hs6
          have HS6 := Lib.hid hs6
          have hrm6 := room_cases (by simpa using HS6.out.room)
          clear hs6
          rcases hrm6 with ⟨hno, _, _⟩ | ⟨g3, cm, hgg, rfl, hb6, ht6, hB6, hc6⟩
          · exact absurd hno (by simp)
          obtain ⟨rfl⟩ : wr.heap.size = g3 := by injection hgg with e; injection e
          have HB6 := Lib.hid hb6
          have HT6 := Lib.hid ht6
          clear hb6 ht6
          have hfit : ah.length + sz ≤ cm.length := by omega
          refine read9 w0 _ B gs gd sz ch wr.heap.size cm ah rs Ad3 cd3 _ _ _ _ _ _ _ _ _ _ _ _ _ _ _ _ _ _ _ _ _ _ _ _ _ _ _ _ _ _ _ _ _ _ _ _ _ _ _ _ _ _ _ _ _ _ _ _ _ _ _ _ _ _ _ _ _ _ _ _ _ _ _ _ _ _ _ _ _ _ _ _ _ _ _ _ _ _ _ _ _ _ _ _ _ _ _ _ _ _ _ _ _ _ _ _ _ _ _ _ _ _ _ _ _ _ _ _ _ _ _ _ _ _ _ _ _ _ _ _ _ _ _ _ _ _ _ _ _ _ _ _ _ _ _ _ _ _ _ _ _ _ _ HS6.out HB6.out HT6.out hB6 hc6 hfit hnar (by omega) ?_
          intro T e106 e107 e108 e109 e110 e111 e112 e113 e114 e115 e116 e117 e118 e119 e120 e121 e122 e123 e124 e125 e126 e127 w3 hp
          obtain ⟨hT3, hT2, hT1, y0, y1, y3, y4, fz1, fz4, Ad4, cd4, hrd⟩ := hp
          have hl0 : (0 : Int) ≤ (ah.length : Int) + (T : Int) := by omega
          have hl2 : (ah.length : Int) + (T : Int) ≤ (cm.length : Int) := by omega
          have hl4 : ((ah.length : Int) + (T : Int)).toNat = ah.length + T := by omega
          have hl5 : IntKind.i64.wrap ((ah.length : Int) + (T : Int)) = (ah.length : Int) + (T : Int) := by rw [IntKind.wrap_i64]; omega
          have HRD := Lib.hid hrd
          clear z0 z1 z2 z3 z4 hrd
          go_wp2
          go_roundw
          case rel => exact Lib.hid ⟨_, _, _, _, _, HRD.out, by rw [List.append_assoc, List.take_append_drop]; exact HTOT.out⟩
          case measure => rw [hleft, left_of HRD.out, List.length_drop]; omega
        · have hd3 : decide ((c3 : Int) - (ah.length : Int) < (sz : Int)) = false := decide_eq_false (by omega)
          rcases hrm with ⟨rfl, rfl, rfl⟩ | ⟨g3, cm, rfl, rfl, hb3, ht3, hB3, hc3'⟩
          · exfalso
            simp at hmk
            omega
          · have HB3 := Lib.hid hb3
            have HT3 := Lib.hid ht3
            clear hb3 ht3
            go_wp2
            go_quiet (fail)
            go_wp2
            have hfit : ah.length + sz ≤ cm.length := by omega
            refine read9 w0 _ B gs gd sz ch g3 cm ah rs Ad3 cd3 _ _ _ _ _ _ _ _ _ _ _ _ _ _ _ _ _ _ _ _ _ _ _ _ _ _ _ _ _ _ _ _ _ _ _ _ _ _ _ _ _ _ _ _ _ _ _ _ _ _ _ _ _ _ _ _ _ _ _ _ _ _ _ _ _ _ _ _ _ _ _ _ _ _ _ _ _ _ _ _ _ _ _ _ _ _ _ _ _ _ _ _ _ _ _ _ _ _ _ _ _ _ _ _ _ _ _ _ _ _ _ _ _ _ _ _ _ _ _ _ _ _ _ _ _ _ _ _ _ _ _ _ _ _ _ _ _ _ _ _ _ _ _ (HS3.out.drewN _) (HB3.out.drewN _) HT3.out hB3 hc3' hfit hnar (by omega) ?_
            intro T e106 e107 e108 e109 e110 e111 e112 e113 e114 e115 e116 e117 e118 e119 e120 e121 e122 e123 e124 e125 e126 e127 w3 hp
            obtain ⟨hT3, hT2, hT1, y0, y1, y3, y4, fz1, fz4, Ad4, cd4, hrd⟩ := hp
            have hl0 : (0 : Int) ≤ (ah.length : Int) + (T : Int) := by omega
            have hl2 : (ah.length : Int) + (T : Int) ≤ (cm.length : Int) := by omega
            have hl4 : ((ah.length : Int) + (T : Int)).toNat = ah.length + T := by omega
            have hl5 : IntKind.i64.wrap ((ah.length : Int) + (T : Int)) = (ah.length : Int) + (T : Int) := by rw [IntKind.wrap_i64]; omega
            have HRD := Lib.hid hrd
            clear z0 z1 z2 z3 z4 hrd
            go_wp2
            go_roundw
            case rel => exact Lib.hid ⟨_, _, _, _, _, HRD.out, by rw [List.append_assoc, List.take_append_drop]; exact HTOT.out⟩
            case measure => rw [hleft, left_of HRD.out, List.length_drop]; omega
end Go.Proofs.YtpfjmnaognlnkaaDoor
