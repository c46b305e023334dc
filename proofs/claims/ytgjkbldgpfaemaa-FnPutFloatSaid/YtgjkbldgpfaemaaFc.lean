/- The law FnPutFloat: a double that is appended is read back, as a single where that is the same number. PRINTED by wip/genfc.py. -/
import Derived.Test.YtgjkbldgpfaemaaFb
namespace Go.Proofs.Ytgjkbldgpfaemaa
open Go.RowKit
set_option linter.unusedVariables false

set_option maxHeartbeats 1000000 in
theorem PutFloat_calls (b : Nat) (hb : b < 18446744073709551616) (same : Bool) (gg : Nat) (F : World → Nat) (D : World → World) (G : World → World → Nat) (E : World → World → World) (hnr : Nrw b same gg F D G E) (w : World) (A : Option Addr) (c : Nat) (l : List Int) (h : Reads w w.heap.size 1 A l.length (bs l)) (hn : l.length ≤ 1099510000000) :
    Calls Try.prog 15 #[.slice A l.length c, .int .u64 (b : Int)] w (AppB w w.heap.size (l ++ encD same gg b)) := by
  have hfb := fun W => frombits64 b W
  have H := Lib.hid h
  have HN := Lib.hid hnr
  clear h hnr
  go_enter Try.func15, Try.ntmps15
  go_wp2_with (first
    | (go_at_call 23
       go_must (
         (refine (copied_b _ A c l H.out (by omega)).mono ?_)
         rintro e w1 ⟨g, cs, rfl, hb1, hnn1, hm1, ht1, hB1, hbel⟩
         have HB := Lib.hid hb1
         have HT := Lib.hid ht1
         have HBEL := Lib.hid hbel
         have hsz := hbel.size
         clear hb1 ht1 hbel))
    | (go_at_call 28
       go_must (
         (refine (AppendFloat_b b hb same gg F D G E HN.out w w1 w.heap.size g cs l HBEL.out hB1 hsz HB.out HT.out hm1 (by omega)).mono ?_)
         rintro e w3 ⟨g2, cs2, rfl, hb2, hnn2, hm2, ht2, hB2, hbel2⟩
         obtain ⟨N2, hN2⟩ : ∃ N2, N2 = (l ++ encD same gg b).length := ⟨_, rfl⟩
         rw [← hN2]
         have HN2 := Lib.hid hN2
         have HB3 := Lib.hid hb2
         have HT2 := Lib.hid ht2
         have HBEL3 := Lib.hid hbel2
         have hn2' := Lib.hid hnn2
         clear hb2 ht2 hbel2 hnn2 hN2)))
  go_ret
  exact ⟨g2, cs2, by rw [← HN2.out]; rfl, HB3.out, hn2'.out, hm2, HT2.out, hB2, HBEL3.out⟩

/-- 1 as a double is 1 as a single. -/
theorem nrw_one : Nrw 4607182418800017408 true 1065353216 (fun _ => 1065353216) (fun w => w) (fun _ _ => 4607182418800017408) (fun _ w => w) where
  nar := fun w => run_convert_float_float w 33 35 .f64 .f32 _ _ (by rw [Try.underlying33]; rfl) Try.underlying35 (by kernel_rfl)
  dn := fun w => ⟨0, rfl⟩
  wid := fun _ w => run_convert_float_float w 35 33 .f32 .f64 _ _ (by rw [Try.underlying35]; rfl) Try.underlying33 (by kernel_rfl)
  en := fun _ w => ⟨0, rfl⟩
  eq := fun _ _ => by kernel_rfl
  same_ := fun _ _ => rfl
  lt := by omega
theorem PutFloat_awake (w : World) : Calls Try.prog 15 #[.slice none 0 0, .int .u64 4607182418800017408] w (AppB w w.heap.size (202 :: be 1065353216 4)) :=
  PutFloat_calls 4607182418800017408 (by omega) true 1065353216 _ _ _ _ nrw_one w none 0 [] Reads.none_ (by simp)

theorem encD_len (same : Bool) (g b : Nat) : 1 ≤ (encD same g b).length ∧ (encD same g b).length ≤ 9 := by
  cases same <;> simp [encD, be_length]
theorem take202 (u : Int) (h0 : 0 ≤ u) (h1 : u < 4294967296) (W : World) (B c : Nat) (A : Option Addr) (h : Reads W B 1 A (202 :: be u 4).length (bs (202 :: be u 4))) (hB : B ≤ W.heap.size) (hc : (202 :: be u 4).length ≤ c) (hm : c ≤ maxLen) :
    Calls Try.prog 26 #[.slice A (202 :: be u 4).length c, .int .i64 1] W (Coded W B (pk 4 u ⟨#[]⟩ 0) []) := by
  refine TakePack_coded W B c A 202 (be u 4) h hB (isB_cons (by omega) (by omega) (isB_be _ _)) hc hm (by omega) (by omega) 4 u 0 ⟨#[]⟩ [] (fun W' c' A' h' hB' hc' hm' => ?_)
  have hl : (be u 4).length = 4 := be_length _ _
  have e := coded202 W' B c' A' (be u 4) h' hB' (isB_be _ _) (by omega) hc' hm'
  rw [List.take_of_length_le (by omega), List.drop_eq_nil_of_le (by omega), valBE_be] at e
  rwa [show u % 256 ^ 4 = u by simp only [Int.reducePow]; omega] at e
theorem take203 (u : Int) (h0 : 0 ≤ u) (h1 : u < 18446744073709551616) (W : World) (B c : Nat) (A : Option Addr) (h : Reads W B 1 A (203 :: be u 8).length (bs (203 :: be u 8))) (hB : B ≤ W.heap.size) (hc : (203 :: be u 8).length ≤ c) (hm : c ≤ maxLen) :
    Calls Try.prog 26 #[.slice A (203 :: be u 8).length c, .int .i64 1] W (Coded W B (pk 5 u ⟨#[]⟩ 0) []) := by
  refine TakePack_coded W B c A 203 (be u 8) h hB (isB_cons (by omega) (by omega) (isB_be _ _)) hc hm (by omega) (by omega) 5 u 0 ⟨#[]⟩ [] (fun W' c' A' h' hB' hc' hm' => ?_)
  have hl : (be u 8).length = 8 := be_length _ _
  have e := coded203 W' B c' A' (be u 8) h' hB' (isB_be _ _) (by omega) hc' hm'
  rw [List.take_of_length_le (by omega), List.drop_eq_nil_of_le (by omega), valBE_be] at e
  rwa [show u % 256 ^ 8 = u by simp only [Int.reducePow]; omega] at e

theorem gen_code {C : Code} {Q : Exit → Act → World → Prop} {a : Act} {w : World} (F : World → Prop) (h : F w) (k : ∀ W, F W → Code.wp Try.prog C Q a W) : Code.wp Try.prog C Q a w := k w h
theorem step_append_fresh {w W : World} {A : Option Addr} {l : List Int} {c : Nat} {ops : Array Oper} {o : Oper} {a : Act} {K : Act → World → Prop} {Q : Exit → Act → World → Prop} {E : Prop} (hgd : o.guard = none) (s x : Operand)
    (ho : o.op = .call { callee := .builtin .append, args := #[s, x], argTypes := #[22, 22] }) (hs : a.eval s = .slice (some ⟨W.heap.size, 0, none⟩) 0 0) (hx : a.eval x = .slice A l.length c)
    (hw : w = W.alloc (.cells #[] 5)) (hr : Reads W W.heap.size 1 A l.length (bs l)) (hn : l.length ≤ 70368744177664)
    (h : ∀ g cs w', Hid (Blk w' g 5 cs) → l.length ≤ cs.length → cs.length ≤ maxLen → Hid (cs.take l.length = bs l) → W.heap.size ≤ g → Below W.heap.size W w' → K (a.put o.dst (.slice (some ⟨g, 0, none⟩) l.length cs.length)) w') :
    if Region.wanted o (yielded ops a.tmps) = true then Oper.wp Try.prog o a w K Q else E := by
  have hwd : Region.wanted o (yielded ops a.tmps) = true := by simp [Region.wanted, hgd]
  rw [if_pos hwd]
  subst hw
  obtain ⟨i0, hi0, hz0, hz1, hz2⟩ := info_parts infoU8
  refine wp_append_any _ s x _ ho W.heap.size 5 i0 _ 1 1 Try.underlying22 hi0 hz0 hz1 hz2 rfl (by omega) _ 0 [] hs (World.ownsRow_made W _ 0 (Nat.le_refl _) (by simp) (by simp)) W.heap.size A l.length c (bs l) hx (hr.alloc (Nat.le_refl _) _) (bs_one l) (by simp only [maxLen]; omega) (by omega) (by simp) ?_
  intro v1 w1 hown1 hg1 hat1
  have hne : v1 ≠ .slice none 0 0 := by
    rintro rfl
    rcases hat1 with h | h <;> simp [Value.ownBlock] at h
  have hown : w1.ownsRow W.heap.size 5 1 v1 l.length (bs l) := by simpa using hown1
  obtain ⟨g, cs, hv, hk, hB, hn, hm, ht⟩ := own_blk hown (.inr hne)
  rw [hv]
  refine h g cs w1 hk hn hm ht hB (((Below.refl _ _).alloc (Nat.le_refl _) _).grown hg1 (by simp) (fun k hk => ?_))
  simp [Value.ownBlock] at hk
  omega

set_option maxHeartbeats 4000000 in
set_option maxRecDepth 100000 in
theorem FnPutFloat_walk (w : World) (A : Option Addr) (c : Nat) (l : List Int) (b : Nat) (h : Reads w w.heap.size 1 A l.length (bs l)) (hc : l.length ≤ c) (hb : b < 18446744073709551616) :
    Calls Try.prog 6 #[.slice A l.length c, .int .u64 (b : Int)] w fun e w' => e = .returned (.bool true) ∧ Below w.heap.size w w' := by
  have hfb := fun W => frombits64 b W
  have hob := fun W => bits64 4607182418800017408 W
  have H := Lib.hid h
  clear h
  by_cases hz : 2147483647 < l.length
  · have hd : decide ((2147483647 : Int) < (l.length : Int)) = true := by simp; omega
    go_enter Try.func6, Try.ntmps6
    go_wp2
    go_ret
    exact ⟨rfl, Below.refl _ _⟩
  have hd : decide ((2147483647 : Int) < (l.length : Int)) = false := by simp; omega
  by_cases hf : l.length ≤ 200
  · cases hnan : (Ieee.double.read b).isNaN with
    | true =>
      have hne : (FloatKind.f64.format.order b b != some Ordering.eq) = true := by rw [show FloatKind.f64.format.order b b = none from order_nan hnan]; rfl
      go_enter Try.func6, Try.ntmps6
      go_wp2_with (first
        | (go_at_call 15
           go_must (
             (refine (PutFloat_awake _).mono ?_)
             rintro e w1 ⟨g1, cs1, rfl, hb1, hn1, hm1, ht1, hB1, hbel1⟩
             rw [show (202 :: be 1065353216 4).length = 5 by simp [be_length]]
             have HBEL1 := Lib.hid hbel1
             clear hb1 ht1 hbel1 hn1))
        | (go_at_call 12
           go_must (
             (refine (few_yes _ _ _ _ hf).mono ?_)
             rintro e w' ⟨rfl, rfl⟩)))
      go_ret
      exact ⟨rfl, HBEL1.out⟩
    | false =>
      have hne : (FloatKind.f64.format.order b b != some Ordering.eq) = false := by rw [show FloatKind.f64.format.order b b = some .eq from order_self hnan]; rfl
      obtain ⟨same, gg, F, D, G, E, hnr⟩ := nrw b hnan
      have HN := Lib.hid hnr
      obtain ⟨h1, h2, h3, h4, h5, h6, h7⟩ := hnr
      obtain ⟨nD, hnD⟩ := Classical.axiomOfChoice h2
      have h4' : ∀ p : World × World, ∃ n, E p.1 p.2 = p.2.drewN n := fun p => h4 p.1 p.2
      obtain ⟨nE, hnE⟩ := Classical.axiomOfChoice h4'
      have g3 : ∀ v v', (convert 35 33 (.float .f32 (F v))).run Try.prog v' = .ok (.float .f64 (G v v')) (v'.drewN (nE (v, v'))) := fun v v' => (h3 v v').trans (by rw [hnE (v, v')])
      clear h2 h3 h4 h4' hnE
      cases same
      · have g1 : ∀ v, (convert 33 35 (.float .f64 b)).run Try.prog v = .ok (.float .f32 (F v)) (v.drewN (nD v)) := fun v => (h1 v).trans (by rw [hnD v])
        clear h1 hnD h6
        go_enter Try.func6, Try.ntmps6
        go_wp2_with (first
          | (go_at_call 15
             go_must (
               (refine (PutFloat_awake _).mono ?_)
               rintro e w1 ⟨g1, cs1, rfl, hb1, hn1, hm1, ht1, hB1, hbel1⟩
               rw [show (202 :: be 1065353216 4).length = 5 by simp [be_length]]
               have HBEL1 := Lib.hid hbel1
               clear hb1 ht1 hbel1 hn1))
          | (go_at_call 12
             go_must (
               (refine (few_yes _ _ _ _ hf).mono ?_)
               rintro e w' ⟨rfl, rfl⟩)))
        refine gen_code (fun W => Blk W w1.heap.size 30 [.int .i64 5, .int .u64 b, .string ⟨#[]⟩, .int .i64 0, .slice none 0 0] ∧ Below w1.heap.size w1 W) ⟨(Blk.new w1 30 [_, _, _, _, _]).drewN _, below_drewN ((Below.refl _ w1).alloc (Nat.le_refl _) _) _⟩ ?_
        rintro W5 ⟨hblk5, hbel5⟩
        have hb5 : Below w.heap.size w W5 := HBEL1.out.trans (hbel5.mono HBEL1.out.size)
        have H1 : Hid (Reads W5 W5.heap.size 1 A l.length (bs l)) := (H.out.below hb5).more hb5.size
        have hk := fun W (hW : Below W5.heap.size W5 W) => blk_cells5 (hblk5.below hW hblk5.lt)
        have HB5 := Lib.hid hb5
        have kA : Below W5.heap.size W5 W5.drew := (Below.refl _ _).drew
        have kB : ∀ o, Below W5.heap.size W5 (W5.alloc o).drew := fun o => ((Below.refl _ _).alloc (Nat.le_refl _) o).drew
        have k0 := hk W5 (Below.refl _ _)
        have k1 := hk _ kA
        have k2 := fun o => hk _ (kB o)
        obtain ⟨hx1, hx2⟩ := encD_len false gg b
        clear hblk5 hbel5 H hb5
        go_region_held3 (fun W => W.cell? ⟨w1.heap.size, 0, none⟩ = some (.int .i64 5) ∧ W.cell? ⟨w1.heap.size, 1, none⟩ = some (.int .u64 b) ∧ W.cell? ⟨w1.heap.size, 2, none⟩ = some (.string ⟨#[]⟩) ∧ W.cell? ⟨w1.heap.size, 3, none⟩ = some (.int .i64 0) ∧ W.cell? ⟨w1.heap.size, 4, none⟩ = some (.slice none 0 0)) (first | assumption | exact k1 | exact k2 _) (first
          | (refine step_append_fresh (W := W5.drew) rfl (.tmp 40) (.tmp 41) rfl rfl rfl rfl (H1.out.below kA) (by omega) ?_
             intro g2 cs2 w2 HB2 hn2 hm2 HT2 hB2 hbel2
             have hS2 : Below W5.heap.size W5 w2 := ⟨hbel2.os, hbel2.tape, hbel2.output, hbel2.size, hbel2.block⟩
             have hK2 := hk _ hS2
             clear hbel2)
          | (go_at_call 15
             refine (PutFloat_calls b hb false gg F D G E HN.out w2 _ _ l (bs_reads HB2.out hn2 HT2.out) (by omega)).mono ?_
             rintro e w3 ⟨g3, cs3, rfl, hb3, hn3, hm3, ht3, hB3, hbel3⟩
             have HB3 := Lib.hid hb3
             have HT3 := Lib.hid ht3
             have HN3 := Lib.hid hn3
             have hS3 : Below W5.heap.size W5 w3 := hS2.trans (hbel3.mono hS2.size)
             have hK3 := hk _ hS3
             clear HB2 hb3 ht3 hbel3 hn3)
          | (go_at_call 14
             refine (appended_n w3 w3.heap.size c cs3.length _ A (some ⟨g3, 0, none⟩) l (encD false gg b) 9 5 b 0 5 b 0 ⟨#[]⟩ ⟨#[]⟩ (by simp) ((H1.out.below hS3).more hS3.size) (bs_reads HB3.out HN3.out HT3.out) (Nat.le_refl _) hc HN3.out hm3 (by omega) (fun W A c => take203 b (by omega) (by omega) W w3.heap.size c A) (fun W => SamePack_plain W 5 b 0 ⟨#[]⟩ (by decide))).mono ?_
             rintro e w4 ⟨rfl, hbel4⟩
             have hS4 : Below W5.heap.size W5 w4 := hS3.trans (hbel4.mono hS3.size)
             have hK4 := hk _ hS4
             clear hbel4))
        go_wp2
        go_ret
        exact ⟨rfl, HB5.out.trans (hS4.mono HB5.out.size)⟩

      · have g1 : ∀ v, (convert 33 35 (.float .f64 b)).run Try.prog v = .ok (.float .f32 gg) (v.drewN (nD v)) := fun v => (h1 v).trans (by rw [hnD v, h6 rfl v])
        have g4 : ∀ v', (convert 35 33 (.float .f32 gg)).run Try.prog v' = .ok (.float .f64 (G w v')) (v'.drewN (nE (w, v'))) := fun v' => by
          have := g3 w v'
          rwa [h6 rfl w] at this
        have hbt := fun W => bits32 gg W
        clear h1 hnD h6 g3
        go_enter Try.func6, Try.ntmps6
        go_wp2_with (first
          | (go_at_call 15
             go_must (
               (refine (PutFloat_awake _).mono ?_)
               rintro e w1 ⟨g1, cs1, rfl, hb1, hn1, hm1, ht1, hB1, hbel1⟩
               rw [show (202 :: be 1065353216 4).length = 5 by simp [be_length]]
               have HBEL1 := Lib.hid hbel1
               clear hb1 ht1 hbel1 hn1))
          | (go_at_call 12
             go_must (
               (refine (few_yes _ _ _ _ hf).mono ?_)
               rintro e w' ⟨rfl, rfl⟩)))
        refine gen_code (fun W => Blk W w1.heap.size 30 [.int .i64 4, .int .u64 gg, .string ⟨#[]⟩, .int .i64 0, .slice none 0 0] ∧ Below w1.heap.size w1 W) ⟨blk_set5 ((Blk.new w1 30 [_, _, _, _, _]).drewN _) _ _ _ _ _, below_set5 (below_drewN ((Below.refl _ w1).alloc (Nat.le_refl _) _) _) _ (Nat.le_refl _) _ _ _ _ _⟩ ?_
        rintro W5 ⟨hblk5, hbel5⟩
        have hb5 : Below w.heap.size w W5 := HBEL1.out.trans (hbel5.mono HBEL1.out.size)
        have H1 : Hid (Reads W5 W5.heap.size 1 A l.length (bs l)) := (H.out.below hb5).more hb5.size
        have hk := fun W (hW : Below W5.heap.size W5 W) => blk_cells5 (hblk5.below hW hblk5.lt)
        have HB5 := Lib.hid hb5
        have kA : Below W5.heap.size W5 W5.drew := (Below.refl _ _).drew
        have kB : ∀ o, Below W5.heap.size W5 (W5.alloc o).drew := fun o => ((Below.refl _ _).alloc (Nat.le_refl _) o).drew
        have k0 := hk W5 (Below.refl _ _)
        have k1 := hk _ kA
        have k2 := fun o => hk _ (kB o)
        obtain ⟨hx1, hx2⟩ := encD_len true gg b
        clear hblk5 hbel5 H hb5
        go_region_held3 (fun W => W.cell? ⟨w1.heap.size, 0, none⟩ = some (.int .i64 4) ∧ W.cell? ⟨w1.heap.size, 1, none⟩ = some (.int .u64 gg) ∧ W.cell? ⟨w1.heap.size, 2, none⟩ = some (.string ⟨#[]⟩) ∧ W.cell? ⟨w1.heap.size, 3, none⟩ = some (.int .i64 0) ∧ W.cell? ⟨w1.heap.size, 4, none⟩ = some (.slice none 0 0)) (first | assumption | exact k1 | exact k2 _) (first
          | (refine step_append_fresh (W := W5.drew) rfl (.tmp 40) (.tmp 41) rfl rfl rfl rfl (H1.out.below kA) (by omega) ?_
             intro g2 cs2 w2 HB2 hn2 hm2 HT2 hB2 hbel2
             have hS2 : Below W5.heap.size W5 w2 := ⟨hbel2.os, hbel2.tape, hbel2.output, hbel2.size, hbel2.block⟩
             have hK2 := hk _ hS2
             clear hbel2)
          | (go_at_call 15
             refine (PutFloat_calls b hb true gg F D G E HN.out w2 _ _ l (bs_reads HB2.out hn2 HT2.out) (by omega)).mono ?_
             rintro e w3 ⟨g3, cs3, rfl, hb3, hn3, hm3, ht3, hB3, hbel3⟩
             have HB3 := Lib.hid hb3
             have HT3 := Lib.hid ht3
             have HN3 := Lib.hid hn3
             have hS3 : Below W5.heap.size W5 w3 := hS2.trans (hbel3.mono hS2.size)
             have hK3 := hk _ hS3
             clear HB2 hb3 ht3 hbel3 hn3)
          | (go_at_call 14
             refine (appended_n w3 w3.heap.size c cs3.length _ A (some ⟨g3, 0, none⟩) l (encD true gg b) 9 4 gg 0 4 gg 0 ⟨#[]⟩ ⟨#[]⟩ (by simp) ((H1.out.below hS3).more hS3.size) (bs_reads HB3.out HN3.out HT3.out) (Nat.le_refl _) hc HN3.out hm3 (by omega) (fun W A c => take202 gg (by omega) (by omega) W w3.heap.size c A) (fun W => SamePack_plain W 4 gg 0 ⟨#[]⟩ (by decide))).mono ?_
             rintro e w4 ⟨rfl, hbel4⟩
             have hS4 : Below W5.heap.size W5 w4 := hS3.trans (hbel4.mono hS3.size)
             have hK4 := hk _ hS4
             clear hbel4))
        go_wp2
        go_ret
        exact ⟨rfl, HB5.out.trans (hS4.mono HB5.out.size)⟩

  · go_enter Try.func6, Try.ntmps6
    go_wp2_with (
      first
        | (go_at_call 15
           go_must (
             (refine (PutFloat_awake _).mono ?_)
             rintro e w1 ⟨g1, cs1, rfl, hb1, hn1, hm1, ht1, hB1, hbel1⟩
             rw [show (202 :: be 1065353216 4).length = 5 by simp [be_length]]
             have HBEL1 := Lib.hid hbel1
             clear hb1 ht1 hbel1 hn1))
        | (go_at_call 12
           go_must (
             (refine (few_no _ _ _ _ hf).mono ?_)
             rintro e w' ⟨rfl, rfl⟩)))
    go_ret
    exact ⟨rfl, HBEL1.out⟩

theorem FnPutFloat_all (w : World) (A : Option Addr) (c : Nat) (l : List Int) (u : Int) (h : Reads w w.heap.size 1 A l.length (bs l)) (hc : l.length ≤ c) (h0 : 0 ≤ u) (h1 : u ≤ 18446744073709551615) :
    Calls Try.prog 6 #[.slice A l.length c, .int .u64 u] w fun e w' => e = .returned (.bool true) ∧ Below w.heap.size w w' := by
  obtain ⟨b, rfl⟩ : ∃ b : Nat, u = (b : Int) := ⟨u.toNat, by omega⟩
  exact FnPutFloat_walk w A c l b h hc (by omega)

end Go.Proofs.Ytgjkbldgpfaemaa
