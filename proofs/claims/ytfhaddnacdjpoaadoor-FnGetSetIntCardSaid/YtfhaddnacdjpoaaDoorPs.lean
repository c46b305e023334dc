/- getType, badPrefix at any byte. PRINTED by wip/genps.py. -/
import Derived.Test.YtfhaddnacdjpoaaDoorPr
namespace Go.Proofs.YtfhaddnacdjpoaaDoor
open Go.RowKit
set_option linter.unusedVariables false

theorem rfixstr_any (w : World) (b : Int) : Calls Tryd.prog 102 #[.int .u8 b] w fun e w' => ∃ x, e = .returned (.int .u8 x) ∧ w = w' := by
  go_enter Tryd.func102, Tryd.ntmps102
  go_wp2
  go_ret
  exact ⟨_, rfl, rfl⟩
theorem rfixmap_any (w : World) (b : Int) : Calls Tryd.prog 103 #[.int .u8 b] w fun e w' => ∃ x, e = .returned (.int .u8 x) ∧ w = w' := by
  go_enter Tryd.func103, Tryd.ntmps103
  go_wp2
  go_ret
  exact ⟨_, rfl, rfl⟩
theorem rfixarray_any (w : World) (b : Int) : Calls Tryd.prog 44 #[.int .u8 b] w fun e w' => ∃ x, e = .returned (.int .u8 x) ∧ w = w' := by
  go_enter Tryd.func44, Tryd.ntmps44
  go_wp2
  go_ret
  exact ⟨_, rfl, rfl⟩

theorem results_cell0 {P : Program} {fn : Func} {p : Tmp} {ty : TypeId} (h : fn.results = #[.cell p ty]) {tmps : Array Value} {w : World} {g : Nat} {cs : List Value} (d : TypeDesc)
    (hp : tmps.getD p undef = .pointer (some ⟨g, 0, none⟩)) (hg : Blk w g ty cs) (hu : P.underlying ty = some d) (hd : (match d with | .struct _ | .array _ _ => true | _ => false) = true) (hi : (P.info? ty).map (·.size) = some cs.length) :
    (results fn tmps).run P w = .ok (.agg cs.toArray) w := by
  have hp' : tmps[p]?.getD undef = .pointer (some ⟨g, 0, none⟩) := by simpa using hp
  simp [results, h, hp', asAddr, run_loadVar_row w g ty ty cs.toArray (0, 0) d hg hu hd (by simpa using hi)]
theorem blk_set4Q {W : World} {p : Nat} {t : TypeId} {z0 z1 z2 z3 : Value} (h : Blk W p t [z0, z1, z2, z3]) (a b c d : Value) :
    Blk ((((W.setCell ⟨p, 0, none⟩ a).setCell ⟨p, 1, none⟩ b).setCell ⟨p, 2, none⟩ c).setCell ⟨p, 3, none⟩ d) p t [a, b, c, d] :=
  (((h.set_ 0 a).set_ 1 b).set_ 2 c).set_ 3 d
theorem bel_set4Q {B b : Nat} {w W : World} (h : Below B w W) (hb : B ≤ b) (x0 x1 x2 x3 : Value) :
    Below B w ((((W.setCell ⟨b, 0, none⟩ x0).setCell ⟨b, 1, none⟩ x1).setCell ⟨b, 2, none⟩ x2).setCell ⟨b, 3, none⟩ x3) := (((h.setCell hb _).setCell hb _).setCell hb _).setCell hb _
def Spec3 (w : World) (e : Ending) (w' : World) : Prop := (∃ s x t y, e = .returned (.agg #[.int .u8 s, .int .i8 x, .int .u8 t, .int .u8 y])) ∧ Below w.heap.size w w'
set_option maxHeartbeats 8000000 in
set_option maxRecDepth 100000 in
theorem calcBytespec_any (w : World) (b : Int) (h0 : 0 ≤ b) (h1 : b < 256) : Calls Tryd.prog 98 #[.int .u8 b] w (Spec3 w) := by
  have hbel : Below w.heap.size w (w.alloc (.cells #[.int .u8 0, .int .i8 0, .int .u8 0, .int .u8 0] 149)) := (Below.refl _ w).alloc (Nat.le_refl _) _
  have hblk := Blk.new w 149 [.int .u8 0, .int .i8 0, .int .u8 0, .int .u8 0]
  have HBK := Lib.hid hblk
  have HB := Lib.hid hbel
  clear hbel hblk
  go_enter Tryd.func98, Tryd.ntmps98
  go_wp2_with (first
    | (go_at_call 102
       go_must (
         (refine (rfixstr_any _ _).mono ?_)
         rintro e w' ⟨x, rfl, rfl⟩))
    | (go_at_call 103
       go_must (
         (refine (rfixmap_any _ _).mono ?_)
         rintro e w' ⟨x, rfl, rfl⟩))
    | (go_at_call 44
       go_must (
         (refine (rfixarray_any _ _).mono ?_)
         rintro e w' ⟨x, rfl, rfl⟩)))
  all_goals (
    (try simp only [Exit.inBlock, Exit.then])
    refine bodyPost_ret (results_cell0 rfl _ rfl (Blk.new w _ [_, _, _, _]) Tryd.underlying149 rfl (by kernel_rfl)) rfl ?_
    exact ⟨⟨_, _, _, _, rfl⟩, (Below.refl _ w).alloc (Nat.le_refl _) _⟩)
set_option maxHeartbeats 4000000 in
set_option maxRecDepth 100000 in
theorem getBytespec_any (w : World) (b : Int) (h0 : 0 ≤ b) (h1 : b < 256) : Calls Tryd.prog 86 #[.int .u8 b] w (Spec3 w) := by
  have hbel : Below w.heap.size w (w.alloc (.cells #[.int .u8 0, .int .i8 0, .int .u8 0, .int .u8 0] 149)) := (Below.refl _ w).alloc (Nat.le_refl _) _
  have hblk := Blk.new w 149 [.int .u8 0, .int .i8 0, .int .u8 0, .int .u8 0]
  have HBK := Lib.hid hblk
  have HB := Lib.hid hbel
  clear hbel hblk
  go_enter Tryd.func86, Tryd.ntmps86
  go_wp2_with (
    (go_at_call 98)
    go_must (
      (refine (calcBytespec_any _ _ h0 h1).mono ?_)
      rintro e w2 ⟨⟨s, x, t, y, rfl⟩, hb2⟩
      have hbk2 := HBK.out.below hb2 HBK.out.lt
      have k0 := hbk2.cell 0
      have k1 := hbk2.cell 1
      have k2 := hbk2.cell 2
      have k3 := hbk2.cell 3
      simp only [List.getElem?_cons_zero, List.getElem?_cons_succ] at k0 k1 k2 k3
      have f0 := hbk2.frozen 0
      have f1 := hbk2.frozen 1
      have f2 := hbk2.frozen 2
      have f3 := hbk2.frozen 3
      have HBK2 := Lib.hid hbk2
      have HB2 := Lib.hid (HB.out.trans (hb2.mono HB.out.size))
      clear hb2 hbk2))
  all_goals (
    (try simp only [Exit.inBlock, Exit.then])
    refine bodyPost_ret (results_cell0 rfl _ rfl (blk_set4Q HBK2.out _ _ _ _) Tryd.underlying149 rfl (by kernel_rfl)) rfl ?_
    exact ⟨⟨_, _, _, _, rfl⟩, bel_set4Q HB2.out (Nat.le_refl _) _ _ _ _⟩)
set_option maxHeartbeats 4000000 in
set_option maxRecDepth 100000 in
theorem getType_any (w : World) (b : Int) (h0 : 0 ≤ b) (h1 : b < 256) : Calls Tryd.prog 59 #[.int .u8 b] w fun e w' => (∃ t, e = .returned (.int .u8 t)) ∧ Below w.heap.size w w' := by
  have hfd : ∀ (s x t y : Int) (w : World), (Instr.field 149 (.agg #[.int .u8 s, .int .i8 x, .int .u8 t, .int .u8 y]) 2).run Tryd.prog w = .ok (.int .u8 t) w := fun _ _ _ _ _ => by kernel_rfl
  go_enter Tryd.func59, Tryd.ntmps59
  go_wp2_with (
    (go_at_call 86)
    go_must (
      (refine (getBytespec_any _ _ h0 h1).mono ?_)
      rintro e w2 ⟨⟨s, x, t, y, rfl⟩, hb2⟩
      have HB2 := Lib.hid hb2
      clear hb2))
  go_ret
  exact ⟨⟨_, rfl⟩, HB2.out⟩
set_option maxHeartbeats 4000000 in
set_option maxRecDepth 100000 in
theorem badPrefix_any (w : World) (k b : Int) (h0 : 0 ≤ b) (h1 : b < 256) : Calls Tryd.prog 47 #[.int .u8 k, .int .u8 b] w fun e w' => (∃ t v, e = .returned (.iface t v)) ∧ Below w.heap.size w w' := by
  go_enter Tryd.func47, Tryd.ntmps47
  go_wp2_with (
    (go_at_call 59)
    go_must (
      (refine (getType_any _ _ h0 h1).mono ?_)
      rintro e w2 ⟨⟨t, rfl⟩, hb2⟩
      have HB2 := Lib.hid hb2
      clear hb2))
  all_goals (
    go_ret
    exact ⟨⟨_, _, rfl⟩, HB2.out⟩)
end Go.Proofs.YtfhaddnacdjpoaaDoor
