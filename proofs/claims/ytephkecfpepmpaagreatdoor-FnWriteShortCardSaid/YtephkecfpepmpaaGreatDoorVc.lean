/- AMQP: the reference's kindOf, takeConstructor, take, TakeValue at values without others in them. PRINTED by wip/genvc.py. -/
import Derived.Test.YtephkecfpepmpaaGreatDoorMp
import Derived.Deep.RegionHeld3
import Derived.IntWalk
namespace Go.Proofs.YtephkecfpepmpaaGreatDoor
open Go.RowKit Go.Maps
set_option linter.unusedVariables false

/-- The codes that are known: their kind, and how many bytes a number has. -/
def KINDS : List (Int × Int × Int) := [(240, 23, 4), (224, 23, 1), (209, 22, 4), (193, 22, 1), (208, 21, 4), (192, 21, 1), (179, 20, 4), (163, 20, 1), (177, 19, 4), (161, 19, 1), (176, 18, 4), (160, 18, 1), (152, 17, 16), (148, 14, 16), (132, 13, 8), (131, 16, 8), (130, 11, 8), (129, 9, 8), (128, 5, 8), (116, 12, 4), (115, 15, 4), (114, 10, 4), (113, 8, 4), (112, 4, 4), (97, 7, 2), (96, 3, 2), (86, 1, 1), (85, 9, 1), (84, 8, 1), (83, 5, 1), (82, 4, 1), (81, 6, 1), (80, 2, 1), (69, 21, 0), (68, 5, 0), (67, 4, 0), (66, 1, 0), (65, 1, 0), (64, 0, 0)]

set_option maxHeartbeats 4000000 in
set_option maxRecDepth 100000 in
theorem kindOf_yes (w : World) (k c d : Int) (h0 : 0 ≤ k) (h1 : k ≤ 1000) (hr : look2 KINDS k (.lit (.int .i64 0)) = pairD c d) :
    Calls Tryz.prog 66 #[.int .i64 k] w fun e w' => e = .returned (.tuple #[.int .i64 c, .int .i64 d, .bool true]) ∧ Below w.heap.size w w' := by
  have HR := Lib.hid hr
  clear hr
  have hmm := @run_makeMap Tryz.prog
  have HM := mapP_made w w w.heap.size (Below.refl _ _) (Nat.le_refl _)
  go_enter Tryz.func66, Tryz.ntmps66
  simp only [List.append_eq, List.cons_append, List.nil_append]
  go_wp2_with (first
    | ((with_reducible refine gate_insert rfl ?_)
       go_must (
         (have HM0 := HM)
         clear HM
         refine wpList_insert_p rfl _ _ _ 202 rfl Tryz.underlying202 _ _ _ rfl rfl rfl HM0 (by simp only [List.length_cons, List.length_nil]; omega) (by omega) (by omega) ?_
         intro w1 HM
         clear HM0))
    | ((with_reducible refine gate_lookup rfl ?_)
       go_must (
         (have HM0 := HM)
         clear HM
         refine wpList_lookup_p rfl _ _ 202 rfl Tryz.underlying202 _ rfl rfl HM0 (by omega) (by omega) c d HR.out ?_
         obtain ⟨-, hbel, -, hsz⟩ := HM0
         have HBEL := Lib.hid hbel
         clear hbel)))
  have hblk : Blk (w1.alloc (.cells #[.int .i64 c, .int .i64 d] 201)) w1.heap.size 201 [.int .i64 c, .int .i64 d] := Blk.new w1 _ [_, _]
  have q0 := hblk.cell 0
  have q1 := hblk.cell 1
  clear hblk
  go_quiet (fail)
  go_wp2
  go_ret3
  exact ⟨rfl, below_drewN (HBEL.out.alloc (by omega) _) nq⟩

/-- A value without others in it. -/
def vl (k u : Int) (s : ByteArray) : Value := .agg #[.int .i64 k, .int .u64 u, .string s, .slice none 0 0, .int .i64 0, .slice none 0 0]
/-- A value was taken; what stands behind it is told. -/
def Tk (w : World) (B : Nat) (v : Value) (l : List Int) (e : Ending) (w' : World) : Prop :=
  ∃ A' c', e = .returned (.tuple #[v, .slice A' l.length c', .bool true]) ∧ l.length ≤ c' ∧ c' ≤ maxLen ∧ Reads w' B 1 A' l.length (bs l) ∧ Below w.heap.size w w'
theorem blk_cells6 {W : World} {p : Nat} {t : TypeId} {a b c d e f : Value} (h : Blk W p t [a, b, c, d, e, f]) :
    W.cell? ⟨p, 0, none⟩ = some a ∧ W.cell? ⟨p, 1, none⟩ = some b ∧ W.cell? ⟨p, 2, none⟩ = some c ∧ W.cell? ⟨p, 3, none⟩ = some d ∧ W.cell? ⟨p, 4, none⟩ = some e ∧ W.cell? ⟨p, 5, none⟩ = some f :=
  ⟨h.cell 0, h.cell 1, h.cell 2, h.cell 3, h.cell 4, h.cell 5⟩
theorem blk_froz6 {W : World} {p : Nat} {t : TypeId} {cs : List Value} (h : Blk W p t cs) :
    W.frozen? ⟨p, 0, none⟩ = false ∧ W.frozen? ⟨p, 1, none⟩ = false ∧ W.frozen? ⟨p, 2, none⟩ = false ∧ W.frozen? ⟨p, 3, none⟩ = false ∧ W.frozen? ⟨p, 4, none⟩ = false ∧ W.frozen? ⟨p, 5, none⟩ = false :=
  ⟨h.frozen 0, h.frozen 1, h.frozen 2, h.frozen 3, h.frozen 4, h.frozen 5⟩
def set6 (W : World) (p : Nat) (a b c d e f : Value) : World :=
  (((((W.setCell ⟨p, 0, none⟩ a).setCell ⟨p, 1, none⟩ b).setCell ⟨p, 2, none⟩ c).setCell ⟨p, 3, none⟩ d).setCell ⟨p, 4, none⟩ e).setCell ⟨p, 5, none⟩ f
theorem blk_set6 {W : World} {p : Nat} {t : TypeId} {z0 z1 z2 z3 z4 z5 : Value} (h : Blk W p t [z0, z1, z2, z3, z4, z5]) (a b c d e f : Value) : Blk (set6 W p a b c d e f) p t [a, b, c, d, e, f] :=
  (((((h.set_ 0 a).set_ 1 b).set_ 2 c).set_ 3 d).set_ 4 e).set_ 5 f
theorem blk_far6 {W : World} {p q : Nat} {t : TypeId} {cs : List Value} (h : Blk W q t cs) (hn : q ≠ p) (a b c d e f : Value) : Blk (set6 W p a b c d e f) q t cs :=
  (((((h.far hn a).far hn b).far hn c).far hn d).far hn e).far hn f
theorem bel_set6 {B p : Nat} {w W : World} (h : Below B w W) (hb : B ≤ p) (a b c d e f : Value) : Below B w (set6 W p a b c d e f) :=
  (((((h.setCell hb _).setCell hb _).setCell hb _).setCell hb _).setCell hb _).setCell hb _
theorem reads_set6 {W : World} {B n p : Nat} {A : Option Addr} {xs : List Value} (h : Reads W B 1 A n xs) (hb : B ≤ p) (a b c d e f : Value) : Reads (set6 W p a b c d e f) B 1 A n xs :=
  (((((h.setCell (p := ⟨p, 0, none⟩) hb _).setCell (p := ⟨p, 1, none⟩) hb _).setCell (p := ⟨p, 2, none⟩) hb _).setCell (p := ⟨p, 3, none⟩) hb _).setCell (p := ⟨p, 4, none⟩) hb _).setCell (p := ⟨p, 5, none⟩) hb _

set_option maxHeartbeats 2000000 in
set_option maxRecDepth 100000 in
theorem takeConstructor_plain (w : World) (B c : Nat) (A : Option Addr) (b lv : Int) (r : List Int) (h : Reads w B 1 A (r.length + 1) (bs (b :: r))) (hB : B ≤ w.heap.size) (hb0 : 0 < b) (hb1 : b ≤ 255) (hc : r.length + 1 ≤ c) (hm : c ≤ maxLen) (hlv : 0 < lv) :
    Calls Tryz.prog 29 #[.slice A (r.length + 1) c, .int .i64 lv] w (Tk w B (.agg #[.slice none 0 0, .int .i64 b]) r) := by
  have H := Lib.hid h
  have hm' : c ≤ 9223372036854775807 := by unfold maxLen at hm; omega
  obtain ⟨ad, rfl, hadB, hcell⟩ := h.byte (l := b :: r) (k := 0) (by simp)
  have hcell0 : w.cell? ad = some (.int .u8 b) := by
    rw [Addr.add_zero'] at hcell; simpa using hcell
  have hadb : ad.block < w.heap.size := by omega
  have hadn : ¬ ad.block = w.heap.size := by omega
  have hR : ∀ A', (A' = if c = 1 then some ad else (some ad).map (·.add 1)) → Reads w B 1 A' r.length (bs r) := fun A' hA' => by
    have := h.cut (k := 1) (cap := c) (by omega) hc
    rw [hA']
    simpa [bs] using this
  have HR := Lib.hid hR
  have hd1 : decide (lv ≤ 0) = false := by simp; omega
  have hd2 : (b == 0) = false := by simp; omega
  have hd3 : (b != 0) = true := by simp; omega
  have hc1' : (1 : Int) ≤ (c : Int) := by omega
  have hr0 : (0 : Int) ≤ (r.length : Int) := by omega
  have hwb : IntKind.i64.wrap b = b := IntWalk.i64_in _ (by omega)
  have hrc : (r.length : Int) + 1 ≤ (c : Int) := by omega
  have hr1 : (1 : Int) ≤ (r.length : Int) + 1 := by omega
  clear h hcell hR
  by_cases hc1 : c = 1
  all_goals
    go_enter Tryz.func29, Tryz.ntmps29
    go_wp2
    have hS0 : w.drew.cell? ad = some (.int .u8 b) := hcell0
    go_region_held3 (fun W => W.cell? ad = some (.int .u8 b)) (first | assumption | exact hcell0 | go_keep) (fail)
    all_goals go_wp2
    all_goals
      refine bodyPost_ret (results_cell2 rfl _ rfl ((Blk.new w 75 [_, _]).drewN 1) Tryz.underlying75 rfl (by kernel_rfl)) rfl ?_
      first
        | exact ⟨some ad, 0, rfl, by omega, by omega, (HR.out (some ad) (by rw [if_pos hc1])).alloc hB _ |>.drewN 1, ((Below.refl _ w).alloc (Nat.le_refl _) _).drew⟩
        | exact ⟨some (ad.add 1), c - 1, rfl, by omega, by omega, (HR.out (some (ad.add 1)) (by rw [if_neg hc1]; rfl)).alloc hB _ |>.drewN 1, ((Below.refl _ w).alloc (Nat.le_refl _) _).drew⟩
end Go.Proofs.YtephkecfpepmpaaGreatDoor
