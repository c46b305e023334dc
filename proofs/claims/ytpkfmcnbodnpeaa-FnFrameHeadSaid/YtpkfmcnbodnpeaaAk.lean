/- AMQP: ParseHeader. (For FnFrameHead.) -/
import Derived.Test.YtpkfmcnbodnpeaaAb
import Derived.Deep.RegionHeld3
namespace Go.Proofs.Ytpkfmcnbodnpeaa
open Go.RowKit
set_option linter.unusedVariables false

theorem blk_cells4 {W : World} {p : Nat} {t : TypeId} {a b c d : Value} (h : Blk W p t [a, b, c, d]) :
    W.cell? ⟨p, 0, none⟩ = some a ∧ W.cell? ⟨p, 1, none⟩ = some b ∧ W.cell? ⟨p, 2, none⟩ = some c ∧ W.cell? ⟨p, 3, none⟩ = some d := ⟨h.cell 0, h.cell 1, h.cell 2, h.cell 3⟩
theorem blk_set4 {W : World} {p : Nat} {t : TypeId} {z0 z1 z2 z3 : Value} (h : Blk W p t [z0, z1, z2, z3]) (a b c d : Value) :
    Blk ((((W.setCell ⟨p, 0, none⟩ a).setCell ⟨p, 1, none⟩ b).setCell ⟨p, 2, none⟩ c).setCell ⟨p, 3, none⟩ d) p t [a, b, c, d] :=
  (((h.set_ 0 a).set_ 1 b).set_ 2 c).set_ 3 d
theorem blk_far4 {W : World} {p q : Nat} {t : TypeId} {cs : List Value} (h : Blk W q t cs) (hn : q ≠ p) (a b c d : Value) :
    Blk ((((W.setCell ⟨p, 0, none⟩ a).setCell ⟨p, 1, none⟩ b).setCell ⟨p, 2, none⟩ c).setCell ⟨p, 3, none⟩ d) q t cs :=
  (((h.far hn a).far hn b).far hn c).far hn d
/-- The world of a goal behind a region, under one name. -/
theorem gen_world {K : Act → World → Prop} {Q : Exit → Act → World → Prop} {a : Act} {w : World} (F : World → Prop) (h : F w) (k : ∀ W, F W → Exit.then K Q .normal a W) : Exit.then K Q .normal a w := k w h
theorem bel_set4 {B b : Nat} {w W : World} (h : Below B w W) (hb : B ≤ b) (x0 x1 x2 x3 : Value) :
    Below B w ((((W.setCell ⟨b, 0, none⟩ x0).setCell ⟨b, 1, none⟩ x1).setCell ⟨b, 2, none⟩ x2).setCell ⟨b, 3, none⟩ x3) :=
  (((h.setCell hb _).setCell hb _).setCell hb _).setCell hb _

set_option maxHeartbeats 6000000 in
set_option maxRecDepth 100000 in
theorem ParseHeader_yes (w : World) (gb g n c : Nat) (a b d e off kind h l : Int) (hB : Bf w gb (some ⟨g, 0, none⟩) n c 0) (hgg : g < gb) (hn : n ≤ 1000000) (h8 : 8 ≤ n) (hc : n ≤ c) (hm : c ≤ maxLen)
    (ha : 0 ≤ a) (ha1 : a ≤ 255) (hb : 0 ≤ b) (hb1 : b ≤ 255) (hd : 0 ≤ d) (hd1 : d ≤ 255) (he : 0 ≤ e) (he1 : e ≤ 255) (hh : 0 ≤ h) (hh1 : h ≤ 255) (hl : 0 ≤ l) (hl1 : l ≤ 255) (ho : 2 ≤ off) (ho1 : off ≤ 255)
    (q0 : w.cell? ⟨g, 0, none⟩ = some (.int .u8 a)) (q1 : w.cell? ⟨g, 1, none⟩ = some (.int .u8 b)) (q2 : w.cell? ⟨g, 2, none⟩ = some (.int .u8 d)) (q3 : w.cell? ⟨g, 3, none⟩ = some (.int .u8 e))
    (q4 : w.cell? ⟨g, 4, none⟩ = some (.int .u8 off)) (q5 : w.cell? ⟨g, 5, none⟩ = some (.int .u8 kind)) (q6 : w.cell? ⟨g, 6, none⟩ = some (.int .u8 h)) (q7 : w.cell? ⟨g, 7, none⟩ = some (.int .u8 l))
    (hsz : 8 ≤ a * 16777216 + (b * 65536 + (d * 256 + e))) :
    Calls Try.prog 11 #[.pointer (some ⟨gb, 0, none⟩)] w fun r w' => r = .returned (.tuple #[.agg #[.int .u32 (a * 16777216 + (b * 65536 + (d * 256 + e))), .int .u8 off, .int .u8 kind, .int .u16 (h * 256 + l)], .nilIface]) ∧ Bf w' gb (some ⟨g, 0, none⟩) n c 8 ∧ Below gb w w' := by
  have hgb := hB.lt
  have HB := Lib.hid hB
  clear hB
  go_enter Try.func11, Try.ntmps11
  go_wp2_with (
    (go_at_call 15)
    go_must (
      (refine (Next_yes _ gb g n c (HB.out.alloc _) hn h8 hc hm).mono ?_)
      rintro r w1 ⟨rfl, m, hw1⟩
      have hb0 : Below gb w w1 := by rw [hw1]; exact (below_drewN ((Below.refl _ w).alloc (Nat.le_of_lt hgb) _) m).setCell (Nat.le_refl _) _
      have hbf : Bf w1 gb (some ⟨g, 0, none⟩) n c 8 := by rw [hw1]; exact ((HB.out.alloc _).drewN m).set_ 1 _
      have hzb : Blk w1 w.heap.size 41 [.int .u32 0, .int .u8 0, .int .u8 0, .int .u16 0] := by rw [hw1]; exact ((Blk.new w _ [_, _, _, _]).drewN m).far (by simp; omega) _
      have p0 : w1.cell? ⟨g, 0, none⟩ = some (.int .u8 a) := (hb0.cell (p := ⟨g, 0, none⟩) hgg).trans q0
      have p1 : w1.cell? ⟨g, 1, none⟩ = some (.int .u8 b) := (hb0.cell (p := ⟨g, 1, none⟩) hgg).trans q1
      have p2 : w1.cell? ⟨g, 2, none⟩ = some (.int .u8 d) := (hb0.cell (p := ⟨g, 2, none⟩) hgg).trans q2
      have p3 : w1.cell? ⟨g, 3, none⟩ = some (.int .u8 e) := (hb0.cell (p := ⟨g, 3, none⟩) hgg).trans q3
      have p4 : w1.cell? ⟨g, 4, none⟩ = some (.int .u8 off) := (hb0.cell (p := ⟨g, 4, none⟩) hgg).trans q4
      have p5 : w1.cell? ⟨g, 5, none⟩ = some (.int .u8 kind) := (hb0.cell (p := ⟨g, 5, none⟩) hgg).trans q5
      have p6 : w1.cell? ⟨g, 6, none⟩ = some (.int .u8 h) := (hb0.cell (p := ⟨g, 6, none⟩) hgg).trans q6
      have p7 : w1.cell? ⟨g, 7, none⟩ = some (.int .u8 l) := (hb0.cell (p := ⟨g, 7, none⟩) hgg).trans q7
      have HB0 := Lib.hid hb0
      have HBF := Lib.hid hbf
      have HZ := Lib.hid hzb
      have hg1 : g < w1.heap.size := by have := hb0.size; omega
      clear hw1 hb0 hbf hzb q0 q1 q2 q3 q4 q5 q6 q7))
  have mkS : ∀ W, Below w1.heap.size w1 W → (W.cell? ⟨g, 4, none⟩ = some (.int .u8 off) ∧ W.cell? ⟨g, 5, none⟩ = some (.int .u8 kind) ∧ Below w1.heap.size w1 W) := fun W hW => ⟨(hW.cell (p := ⟨g, 4, none⟩) hg1).trans p4, (hW.cell (p := ⟨g, 5, none⟩) hg1).trans p5, hW⟩
  have kA : Below w1.heap.size w1 w1.drew := (Below.refl _ _).drew
  have hS0 := mkS _ kA
  have hld : ∀ w, (loadVar 49 ⟨0, 0, none⟩).run Try.prog w = .ok (.agg #[]) w := fun w => by kernel_rfl
  have hc8 : (8 : Nat) ≤ c := by omega
  have hc6 : ¬ c = 6 := by omega
  have hc0 : ¬ c = 0 := by omega
  have hc8' : (8 : Int) ≤ (c : Int) := by omega
  have hc4' : (4 : Int) ≤ (c : Int) := by omega
  have c32 : ∀ (W : World) (c' : Nat), Below w1.heap.size w1 W → Calls Try.prog 16 #[.agg #[], .slice (some ⟨g, 0, none⟩) 4 c'] W fun r w' => r = .returned (.int .u32 (a * 16777216 + (b * 65536 + (d * 256 + e)))) ∧ Below w1.heap.size w1 w' ∧ Below W.heap.size W w' := fun W c' hW =>
    (uint32_calls W g c' a b d e ha ha1 hb hb1 hd hd1 he he1 (Nat.lt_of_lt_of_le hg1 hW.size) ((hW.cell (p := ⟨g, 0, none⟩) hg1).trans p0) ((hW.cell (p := ⟨g, 1, none⟩) hg1).trans p1) ((hW.cell (p := ⟨g, 2, none⟩) hg1).trans p2) ((hW.cell (p := ⟨g, 3, none⟩) hg1).trans p3)).mono fun r w' ⟨h1, h2⟩ => ⟨h1, hW.trans (h2.mono hW.size), h2⟩
  have c16 : ∀ (W : World) (c' : Nat), Below w1.heap.size w1 W → Calls Try.prog 17 #[.agg #[], .slice (some ⟨g, 6, none⟩) 2 c'] W fun r w' => r = .returned (.int .u16 (h * 256 + l)) ∧ Below w1.heap.size w1 w' ∧ Below W.heap.size W w' := fun W c' hW =>
    (uint16_calls W g c' h l hh hh1 hl hl1 (Nat.lt_of_lt_of_le hg1 hW.size) ((hW.cell (p := ⟨g, 6, none⟩) hg1).trans p6) ((hW.cell (p := ⟨g, 7, none⟩) hg1).trans p7)).mono fun r w' ⟨h1, h2⟩ => ⟨h1, hW.trans (h2.mono hW.size), h2⟩
  have C32 := Lib.hid c32
  have C16 := Lib.hid c16
  clear c32 c16
  go_region_held3 (fun W => W.cell? ⟨g, 4, none⟩ = some (.int .u8 off) ∧ W.cell? ⟨g, 5, none⟩ = some (.int .u8 kind) ∧ Below w1.heap.size w1 W) (first | assumption | (refine mkS _ ?_; first | assumption | exact Below.alloc (by assumption) (Below.size (by assumption)) _ | exact bel_set4 (by first | assumption | exact Below.alloc (by assumption) (Below.size (by assumption)) _) (by first | exact Nat.le_refl _ | exact Below.size (by assumption)) _ _ _ _)) (first
    | (go_at_call 16
       refine (C32.out _ _ (by first | assumption | exact Below.alloc (by assumption) (Below.size (by assumption)) _)).mono ?_
       rintro r w2 ⟨rfl, hb2, hk2⟩
       have hS2 := mkS _ hb2
       first
         | (have hz2 : Blk w2 w1.heap.size 41 [.int .u32 0, .int .u8 0, .int .u8 0, .int .u16 0] := (Blk.new w1.drew 41 [.int .u32 0, .int .u8 0, .int .u8 0, .int .u16 0]).below hk2 (by simp)
            obtain ⟨y0, y1, y2, y3⟩ := blk_cells4 hz2
            have y4 := hz2.frozen 0
            have y5 := hz2.frozen 1
            have y6 := hz2.frozen 2
            have y7 := hz2.frozen 3
            have HZ2 := Lib.hid hz2
            clear hz2)
         | skip
       clear hk2)
    | (go_at_call 17
       refine (C16.out _ _ (by first | assumption | exact Below.alloc (by assumption) (Below.size (by assumption)) _)).mono ?_
       rintro r w3 ⟨rfl, hb3, hk3⟩
       have hS3 := mkS _ hb3
       first
         | (have hz3 : Blk w3 w1.heap.size 41 [.int .u32 0, .int .u8 0, .int .u8 0, .int .u16 0] := HZ2.out.below hk3 HZ2.out.lt
            obtain ⟨x0, x1, x2, x3⟩ := blk_cells4 hz3
            have x4 := hz3.frozen 0
            have x5 := hz3.frozen 1
            have x6 := hz3.frozen 2
            have x7 := hz3.frozen 3
            have HZ3 := Lib.hid hz3
            clear hz3)
         | (have hz3 : Blk w3 w2.heap.size 41 [.int .u32 0, .int .u8 0, .int .u8 0, .int .u16 0] := (Blk.new w2 41 [.int .u32 0, .int .u8 0, .int .u8 0, .int .u16 0]).below hk3 (by simp)
            obtain ⟨x0, x1, x2, x3⟩ := blk_cells4 hz3
            have x4 := hz3.frozen 0
            have x5 := hz3.frozen 1
            have x6 := hz3.frozen 2
            have x7 := hz3.frozen 3
            have HZ3 := Lib.hid hz3
            clear hz3)
         | skip
       clear hk3))
  all_goals
    have hlt1 : w.heap.size < w1.heap.size := HZ.out.lt
    have hgw1 : gb < w1.heap.size := by omega
    have hz6 : Blk w3 w.heap.size 41 [.int .u32 0, .int .u8 0, .int .u8 0, .int .u16 0] := HZ.out.below hb3 hlt1
    have hbf3 : Bf w3 gb (some ⟨g, 0, none⟩) n c 8 := Blk.below HBF.out hb3 hgw1
    have hbel3 : Below gb w w3 := HB0.out.trans (hb3.mono (by omega))
    have hs3 := hb3.size
    have hs2 := hb2.size
    obtain ⟨b5, hb5⟩ : ∃ b5 : Nat, w1.heap.size ≤ b5 := ⟨_, Nat.le_refl _⟩
    clear b5 hb5
    first
      | (refine gen_world (fun W => Blk W w1.heap.size 41 [.int .u32 (a * 16777216 + (b * 65536 + (d * 256 + e))), .int .u8 off, .int .u8 kind, .int .u16 (h * 256 + l)] ∧ Blk W w.heap.size 41 [.int .u32 0, .int .u8 0, .int .u8 0, .int .u16 0] ∧ Bf W gb (some ⟨g, 0, none⟩) n c 8 ∧ Below gb w W ∧ w.heap.size ≠ w1.heap.size ∧ w1.heap.size < W.heap.size) ⟨blk_set4 HZ3.out _ _ _ _, blk_far4 hz6 (by omega) _ _ _ _, blk_far4 hbf3 (by omega) _ _ _ _, bel_set4 hbel3 (by omega) _ _ _ _, by omega, by simpa using HZ3.out.lt⟩ ?_
         rintro W5 ⟨g1, g2, g3, g4, g5, g6⟩)
      | (refine gen_world (fun W => Blk W w2.heap.size 41 [.int .u32 (a * 16777216 + (b * 65536 + (d * 256 + e))), .int .u8 off, .int .u8 kind, .int .u16 (h * 256 + l)] ∧ Blk W w.heap.size 41 [.int .u32 0, .int .u8 0, .int .u8 0, .int .u16 0] ∧ Bf W gb (some ⟨g, 0, none⟩) n c 8 ∧ Below gb w W ∧ w.heap.size ≠ w2.heap.size ∧ w2.heap.size < W.heap.size) ⟨blk_set4 HZ3.out _ _ _ _, blk_far4 hz6 (by omega) _ _ _ _, blk_far4 hbf3 (by omega) _ _ _ _, bel_set4 hbel3 (by omega) _ _ _ _, by omega, by simpa using HZ3.out.lt⟩ ?_
         rintro W5 ⟨g1, g2, g3, g4, g5, g6⟩)
      | (refine gen_world (fun W => Blk W w3.heap.size 41 [.int .u32 (a * 16777216 + (b * 65536 + (d * 256 + e))), .int .u8 off, .int .u8 kind, .int .u16 (h * 256 + l)] ∧ Blk W w.heap.size 41 [.int .u32 0, .int .u8 0, .int .u8 0, .int .u16 0] ∧ Bf W gb (some ⟨g, 0, none⟩) n c 8 ∧ Below gb w W ∧ w.heap.size ≠ w3.heap.size ∧ w3.heap.size < W.heap.size) ⟨Blk.new _ _ [_, _, _, _], hz6.alloc _, Blk.alloc hbf3 _, hbel3.alloc (by omega) _, by omega, by simp⟩ ?_
         rintro W5 ⟨g1, g2, g3, g4, g5, g6⟩)
    clear hS0 hld kA mkS hz6 hbf3 hbel3 hS2 hS3
    obtain ⟨z0, z1, z2, z3⟩ := blk_cells4 g2
    have z4 := g2.frozen 0
    have z5 := g2.frozen 1
    have z6 := g2.frozen 2
    have z7 := g2.frozen 3
    obtain ⟨t0, t1, t2, t3⟩ := blk_cells4 g1
    have G1 := Lib.hid g1
    have G2 := Lib.hid g2
    have G3 := Lib.hid g3
    have G4 := Lib.hid g4
    clear g1 g2 g3 g4
    go_wp2
    refine bodyPost_ret (results_cell1 rfl _ rfl (blk_set4 G2.out _ _ _ _) Try.underlying41 rfl (by kernel_rfl)) rfl ?_
    exact ⟨rfl, blk_far4 G3.out (by omega) _ _ _ _, bel_set4 G4.out (by omega) _ _ _ _⟩
end Go.Proofs.Ytpkfmcnbodnpeaa
