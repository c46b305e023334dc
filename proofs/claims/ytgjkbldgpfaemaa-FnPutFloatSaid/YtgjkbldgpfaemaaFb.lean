/- msgp.AppendFloat: a float of 32 bits where it has the same value. PRINTED by wip/genfb.py. -/
import Derived.Test.YtgjkbldgpfaemaaKp
import Derived.Test.YtgjkbldgpfaemaaFa
import Derived.Deep.RegionHeld3
namespace Go.Proofs.Ytgjkbldgpfaemaa
open Go.RowKit
set_option linter.unusedVariables false

theorem frombits64 (n : Nat) (W : World) : (callFunc 17 #[.int .u64 (n : Int)]).run Try.prog W = .ok (.value (.float .f64 n)) W :=
  (run_callFunc_extern Try.func17 (by kernel_rfl) (by kernel_rfl) (by kernel_rfl) (e := Extern.MathFloatBits.float64frombits) (by kernel_rfl) #[.int .u64 (n : Int)] W).trans rfl
theorem bits64 (n : Nat) (W : World) : (callFunc 16 #[.float .f64 n]).run Try.prog W = .ok (.value (.int .u64 (n : Int))) W :=
  (run_callFunc_extern Try.func16 (by kernel_rfl) (by kernel_rfl) (by kernel_rfl) (e := Extern.MathFloatBits.float64bits) (by kernel_rfl) #[.float .f64 n] W).trans rfl
theorem bits32 (n : Nat) (W : World) : (callFunc 18 #[.float .f32 n]).run Try.prog W = .ok (.value (.int .u32 (n : Int))) W :=
  (run_callFunc_extern Try.func18 (by kernel_rfl) (by kernel_rfl) (by kernel_rfl) (e := Extern.MathFloatBits.float32bits) (by kernel_rfl) #[.float .f32 n] W).trans rfl

theorem app_sp {w0 W : World} {B g : Nat} {cs : List Value} {l news : List Int} (hg : B ≤ g) (hB : Below B w0 W) (hb : Blk W g 5 (splice cs l.length (bs news))) (hn : l.length + news.length ≤ cs.length) (hm : cs.length ≤ maxLen) (ht : cs.take l.length = bs l) (v : Value)
    (hv : v = .slice (some ⟨g, 0, none⟩) (l.length + news.length) cs.length) : AppB w0 B (l ++ news) (.returned v) W := by
  have hl : (l ++ news).length = l.length + news.length := by simp
  have h1 : (splice cs l.length (bs news)).length = cs.length := length_splice _ _ _ (by rw [bs_length]; omega)
  have t1 := splice_take cs l.length (bs news) (by rw [bs_length]; omega)
  rw [bs_length] at t1
  refine ⟨g, _, by rw [hv, h1, hl], hb, by rw [h1, hl]; omega, by rw [h1]; exact hm, ?_, hg, hB⟩
  rw [hl, t1, ht, bs_append]

set_option maxHeartbeats 1000000 in
theorem AppendFloat32_b (w0 w : World) (B g : Nat) (n : Nat) (cs : List Value) (l : List Int) (hw0 : Below B w0 w) (hB : B ≤ g) (hBw : B ≤ w.heap.size) (hb : Blk w g 5 cs) (hx : cs.take l.length = bs l) (hm : cs.length ≤ maxLen) (hs : l.length ≤ 1099511000000) (hn : (n : Int) ≤ 4294967295) :
    Calls Try.prog 40 #[.slice (some ⟨g, 0, none⟩) l.length cs.length, .float .f32 n] w (AppB w0 B (l ++ (202 :: be n 4))) := by
  have hbt := fun W => bits32 n W
  have hnl : l.length ≤ cs.length := by
    have := congrArg List.length hx
    rw [List.length_take, bs_length] at this
    omega
  have hgl := hb.lt
  have HB := Lib.hid hb
  have HX := Lib.hid hx
  have HW0 := Lib.hid hw0
  clear hb hx hw0 hnl
  go_enter Try.func40, Try.ntmps40
  go_wp2_with (first
    | (go_at_call 33
       go_must (
         (refine (ensure_b _ g 5 5 rfl cs l HB.out HX.out hm (by omega)).mono ?_)
         rintro e w1 ⟨g', cs', rfl, hb1, hn1, hm1, ht1, hbel, hk⟩
         have HB1 := Lib.hid hb1
         have HT1 := Lib.hid ht1
         have HL1 := Lib.hid hbel
         have HK1 := Lib.hid hk
         have hm1' : cs'.length ≤ 9223372036854775807 := by unfold maxLen at hm1; omega
         clear hb1 ht1 hbel hk)))
  have hj0 : (0 : Int) ≤ (l.length : Int) := by omega
  have hj1 : (l.length : Int) ≤ (l.length : Int) + 5 := by omega
  have hj2 : (l.length : Int) ≤ (cs'.length : Int) := by omega
  have hj3 : ¬ cs'.length = l.length := by omega
  have hj4 : l.length ≤ cs'.length := by omega
  have hj5 : l.length ≤ l.length + 5 := by omega
  have hj6 : l.length + 5 - l.length = 5 := by omega
  have kA : Below B w0 w1 := HW0.out.trans (HL1.out.mono hBw)
  have kB := kA.drew
  go_region_held3 (fun W => Below B w0 W) (first | assumption | exact kA | exact kB) (first
    | (go_at_call 36
       refine (prefixu32_calls w1.drew g' l.length _ _ 202 _ cs' (HB1.out.drewN 1) (by omega) (by omega) hm1 (by omega) hn).mono ?_
       rintro e w2 ⟨rfl, hb2, hg2, hs2⟩
       have HB2 := Lib.hid hb2
       have HG2 := Lib.hid hg2
       have hS2 : Below B w0 w2 := kB.grown hg2 (by have := HL1.out.size; simp; omega) (fun k hk => by injection hk with e; rcases HK1.out with h | h <;> omega)
       clear hb2 hg2 hs2))
  go_wp2
  go_ret
  have hgB : B ≤ g' := by rcases HK1.out with h | h <;> omega
  refine app_sp hgB hS2 HB2.out (by simp [be_length]; omega) hm1 HT1.out _ ?_
  simp [be_length]

set_option maxHeartbeats 1000000 in
theorem AppendFloat64_b (w0 w : World) (B g : Nat) (n : Nat) (cs : List Value) (l : List Int) (hw0 : Below B w0 w) (hB : B ≤ g) (hBw : B ≤ w.heap.size) (hb : Blk w g 5 cs) (hx : cs.take l.length = bs l) (hm : cs.length ≤ maxLen) (hs : l.length ≤ 1099511000000) (hn : (n : Int) ≤ 18446744073709551615) :
    Calls Try.prog 41 #[.slice (some ⟨g, 0, none⟩) l.length cs.length, .float .f64 n] w (AppB w0 B (l ++ (203 :: be n 8))) := by
  have hbt := fun W => bits64 n W
  have hnl : l.length ≤ cs.length := by
    have := congrArg List.length hx
    rw [List.length_take, bs_length] at this
    omega
  have hgl := hb.lt
  have HB := Lib.hid hb
  have HX := Lib.hid hx
  have HW0 := Lib.hid hw0
  clear hb hx hw0 hnl
  go_enter Try.func41, Try.ntmps41
  go_wp2_with (first
    | (go_at_call 33
       go_must (
         (refine (ensure_b _ g 9 9 rfl cs l HB.out HX.out hm (by omega)).mono ?_)
         rintro e w1 ⟨g', cs', rfl, hb1, hn1, hm1, ht1, hbel, hk⟩
         have HB1 := Lib.hid hb1
         have HT1 := Lib.hid ht1
         have HL1 := Lib.hid hbel
         have HK1 := Lib.hid hk
         have hm1' : cs'.length ≤ 9223372036854775807 := by unfold maxLen at hm1; omega
         clear hb1 ht1 hbel hk)))
  have hj0 : (0 : Int) ≤ (l.length : Int) := by omega
  have hj1 : (l.length : Int) ≤ (l.length : Int) + 9 := by omega
  have hj2 : (l.length : Int) ≤ (cs'.length : Int) := by omega
  have hj3 : ¬ cs'.length = l.length := by omega
  have hj4 : l.length ≤ cs'.length := by omega
  have hj5 : l.length ≤ l.length + 9 := by omega
  have hj6 : l.length + 9 - l.length = 9 := by omega
  have kA : Below B w0 w1 := HW0.out.trans (HL1.out.mono hBw)
  have kB := kA.drew
  go_region_held3 (fun W => Below B w0 W) (first | assumption | exact kA | exact kB) (first
    | (go_at_call 55
       refine (prefixu64_calls w1.drew g' l.length _ _ 203 _ cs' (HB1.out.drewN 1) (by omega) (by omega) hm1 (by omega) hn).mono ?_
       rintro e w2 ⟨rfl, hb2, hg2, hs2⟩
       have HB2 := Lib.hid hb2
       have HG2 := Lib.hid hg2
       have hS2 : Below B w0 w2 := kB.grown hg2 (by have := HL1.out.size; simp; omega) (fun k hk => by injection hk with e; rcases HK1.out with h | h <;> omega)
       clear hb2 hg2 hs2))
  go_wp2
  go_ret
  have hgB : B ≤ g' := by rcases HK1.out with h | h <;> omega
  refine app_sp hgB hS2 HB2.out (by simp [be_length]; omega) hm1 HT1.out _ ?_
  simp [be_length]

/-- A double, written: in 32 bits where that is the same number. -/
def encD (same : Bool) (g b : Nat) : List Int := if same then 202 :: be g 4 else 203 :: be b 8
/-- What a double is as a single, and whether this is the same number. -/
structure Nrw (b : Nat) (same : Bool) (g : Nat) (F : World → Nat) (D : World → World) (G : World → World → Nat) (E : World → World → World) : Prop where
  nar : ∀ w, (convert 33 35 (.float .f64 b)).run Try.prog w = .ok (.float .f32 (F w)) (D w)
  dn : ∀ w, ∃ n, D w = w.drewN n
  wid : ∀ w w', (convert 35 33 (.float .f32 (F w))).run Try.prog w' = .ok (.float .f64 (G w w')) (E w w')
  en : ∀ w w', ∃ n, E w w' = w'.drewN n
  eq : ∀ w w', (FloatKind.f64.format.order (G w w') b == some Ordering.eq) = same
  same_ : same = true → ∀ w, F w = g
  lt : g < 4294967296
theorem nrw (b : Nat) (hnn : (Ieee.double.read b).isNaN = false) : ∃ same g F D G E, Nrw b same g F D G E := by
  obtain ⟨same, g, F, D, G, E, h1, h2, h3, h4, h5, h6, h7⟩ := narrow (P := Try.prog) 33 35 Try.underlying33 Try.underlying35 b hnn
  refine ⟨same, g, F, D, G, E, h1, h2, h3, h4, fun w w' => ?_, h6, h7⟩
  have e := (run_eql (P := Try.prog) 33 (G w w') b w).symm.trans (h5 33 w w' w)
  injection e with e
  injection e

set_option maxHeartbeats 1000000 in
theorem AppendFloat_b (b : Nat) (hb : b < 18446744073709551616) (same : Bool) (gg : Nat) (F : World → Nat) (D : World → World) (G : World → World → Nat) (E : World → World → World) (hnr : Nrw b same gg F D G E) (w0 w : World) (B g : Nat) (cs : List Value) (l : List Int) (hw0 : Below B w0 w) (hB : B ≤ g) (hBw : B ≤ w.heap.size) (hbk : Blk w g 5 cs) (hx : cs.take l.length = bs l) (hm : cs.length ≤ maxLen) (hs : l.length ≤ 1099511000000) :
    Calls Try.prog 28 #[.slice (some ⟨g, 0, none⟩) l.length cs.length, .float .f64 b] w (AppB w0 B (l ++ encD same gg b)) := by
  obtain ⟨h1, h2, h3, h4, h5, h6, h7⟩ := hnr
  have HB := Lib.hid hbk
  have HX := Lib.hid hx
  have HW0 := Lib.hid hw0
  have H2 := Lib.hid h2
  have H4 := Lib.hid h4
  have H6 := Lib.hid h6
  clear hbk hx hw0 h2 h4 h6
  obtain ⟨n1, hn1⟩ := H2.out w
  obtain ⟨n2, hn2⟩ := H4.out w (D w)
  have hE : E w (D w) = (w.drewN n1).drewN n2 := by rw [hn2, hn1]
  have HE := Lib.hid hE
  clear hE hn1 hn2
  cases same
  · go_enter Try.func28, Try.ntmps28
    go_wp2_with (
      (go_at_call 41)
      go_must (
        (rw [HE.out])
        refine (AppendFloat64_b w0 ((w.drewN n1).drewN n2) B g b cs l (below_drewN (below_drewN HW0.out n1) n2) hB hBw HB.out HX.out hm hs (by omega)).mono ?_
        rintro e w3 ⟨g2, cs2, rfl, hb3, hn3, hm3, ht3, hB3, hbel3⟩
        obtain ⟨N2, hN2⟩ : ∃ N2, N2 = (l ++ 203 :: be (b : Int) 8).length := ⟨_, rfl⟩
        rw [← hN2]
        have HN2 := Lib.hid hN2
        have HB3 := Lib.hid hb3
        have HT3 := Lib.hid ht3
        have HBEL3 := Lib.hid hbel3
        have hn3' := Lib.hid hn3
        clear hb3 ht3 hbel3 hn3 hN2))
    go_ret
    exact ⟨g2, cs2, by rw [show encD false gg b = 203 :: be (b : Int) 8 from rfl, ← HN2.out]; rfl, HB3.out, hn3'.out, hm3, HT3.out, hB3, HBEL3.out⟩
  · have hF := H6.out rfl w
    have HF := Lib.hid hF
    clear hF
    go_enter Try.func28, Try.ntmps28
    go_wp2_with (
      (go_at_call 40)
      go_must (
        (rw [HE.out, HF.out])
        refine (AppendFloat32_b w0 ((w.drewN n1).drewN n2) B g gg cs l (below_drewN (below_drewN HW0.out n1) n2) hB hBw HB.out HX.out hm hs (by omega)).mono ?_
        rintro e w3 ⟨g2, cs2, rfl, hb3, hn3, hm3, ht3, hB3, hbel3⟩
        obtain ⟨N2, hN2⟩ : ∃ N2, N2 = (l ++ 202 :: be (gg : Int) 4).length := ⟨_, rfl⟩
        rw [← hN2]
        have HN2 := Lib.hid hN2
        have HB3 := Lib.hid hb3
        have HT3 := Lib.hid ht3
        have HBEL3 := Lib.hid hbel3
        have hn3' := Lib.hid hn3
        clear hb3 ht3 hbel3 hn3 hN2))
    go_ret
    exact ⟨g2, cs2, by rw [show encD true gg b = 202 :: be (gg : Int) 4 from rfl, ← HN2.out]; rfl, HB3.out, hn3'.out, hm3, HT3.out, hB3, HBEL3.out⟩

end Go.Proofs.Ytgjkbldgpfaemaa
