/- putHead where a fixed form is allowed, too; a string appended to bytes of the call's own. -/
import Derived.Test.YtfhaddnacdjpoaaDoorPg
import Derived.Test.YtfhaddnacdjpoaaDoorRj
import Derived.Lib.AppendStr
import Derived.Deep.RegionHeld3
namespace Go.Proofs.YtfhaddnacdjpoaaDoor
open Go.RowKit
set_option linter.unusedVariables false

set_option maxHeartbeats 4000000 in
set_option maxRecDepth 100000 in
theorem putHead_fix (w : World) (gf c n : Nat) (st fixed under : Int) (sh : Bool) (A : Option Addr) (fs : List (Int × Nat)) (hb : Blk w gf 34 [.int .u64 st, .bool sh]) (hn : n < 32)
    (h : WantsF w w.heap.size A fs) (hl : fs.length ≤ 8) (hs : ∀ p ∈ fs, 0 ≤ p.1 ∧ p.1 ≤ 255 ∧ p.2 ≤ 8) (hp : 0 ≤ fixed) (hp2 : fixed ≤ 160) (hu : (n : Int) < under) (hor : bits .or .i64 fixed (n : Int) = fixed + n) (hok : 0 < (fs.filter (okF n)).length) :
    Calls Tryd.prog 23 #[.pointer (some ⟨gf, 0, none⟩), .int .i64 n, .int .i64 fixed, .int .i64 under, .slice A fs.length c] w (PutH gf sh (fun enc => enc = [fixed + n] ∨ HeadF n fs enc) w) := by
  have hwn : IntKind.u64.wrap (n : Int) = n := by rw [IntKind.wrap_u64]; omega
  have hw8 : IntKind.u8.wrap (fixed + n) = fixed + n := by rw [IntKind.wrap_u8]; omega
  have hgf := hb.lt
  obtain ⟨K, hK⟩ : ∃ K, K = fs.filter (okF n) := ⟨_, rfl⟩
  have hK8 : K.length ≤ 8 := by rw [hK]; exact Nat.le_trans (List.length_filter_le _ _) hl
  have hsz := sizes_calls w n A c fs (by omega) (by omega) h hl (fun p hp => (hs p hp).2.2)
  have hKP : ∀ p ∈ K, p ∈ fs ∧ okF n p = true := fun p hp => by rw [hK] at hp; exact List.mem_filter.1 hp
  rw [← hK] at hsz hok
  have HB := Lib.hid hb
  have HS := Lib.hid hs
  have HSZ := Lib.hid hsz
  have HKP := Lib.hid hKP
  clear hb h hs hsz hKP hK
  go_enter Tryd.func23, Tryd.ntmps23
  go_wp2_with (first
    | (go_at_call 36
       go_must (
         (refine HSZ.out.mono ?_)
         rintro e w1 ⟨A1, c1, rfl, hown1, hbel1⟩
         have hb1 := HB.out.below hbel1 hgf
         have HOWN1 := Lib.hid hown1
         have HBEL1 := Lib.hid hbel1
         have HB1 := Lib.hid hb1
         clear hown1 hbel1 hb1))
    | (go_at_call 35
       go_must (
         (refine (pick_calls w1 gf (K.length + 1) st sh HB1.out (by omega) (by omega)).mono ?_)
         rintro e w2 ⟨k, st2, rfl, hk2, hb2, hg2⟩
         have hown2 := HOWN1.out.kept hg2 (.inr (fun e => by have := (HOWN1.out.lt gf e).1; omega))
         obtain ⟨g2, hA2, hg2B, hc2⟩ := wantsF_own hown2 (by omega)
         subst hA2
         have hk3 : k - 1 < K.length := by omega
         obtain ⟨c20, c21⟩ := hc2 (k - 1) hk3
         have hm : K[k - 1] ∈ K := List.getElem_mem hk3
         generalize K[k - 1] = p at *
         obtain ⟨code, s⟩ := p
         obtain ⟨hpf, hpo⟩ := HKP.out _ hm
         obtain ⟨hp0, hp1, hp3⟩ := HS.out _ hpf
         simp only at c20 c21 hp0 hp1 hp3
         have HPF := Lib.hid hpf
         have HPO := Lib.hid hpo
         have HB2 := Lib.hid hb2
         have HG2 := Lib.hid hg2
         clear hown2 hc2 hm hpf hpo hb2 hg2))
    | (go_at_call 22
       go_must (
         (refine (headed_calls w2 n code s (by omega) (by omega) hp3 hp0 hp1).mono ?_)
         rintro e w3 ⟨A3, c3, rfl, hown3, hbel3⟩
         have HOWN3 := Lib.hid hown3
         have HBEL3 := Lib.hid hbel3
         clear hown3 hbel3 c20 c21)))
  all_goals first
    | (exfalso
       have h1 : ((k : Int) == 0) = false := by assumption
       have h2 : ¬(1 ≤ (k : Int) ∧ (k : Int) - 1 < (K.length : Int)) := by assumption
       have h3 : k ≠ 0 := by intro e; subst e; simp at h1
       omega)
    | (go_ret
       have hg1 := belowP_grown HBEL1.out (some gf)
       have hz2 := HG2.out.size
       have hz1 := HBEL1.out.size
       exact ⟨code :: be n s, A3, c3, st2, rfl, .inr ⟨_, HPF.out, HPO.out, rfl⟩, own_lower HOWN3.out (by omega), HB2.out.below HBEL3.out HB2.out.lt, grownP_trans (grownP_trans hg1 HG2.out) (belowP_grown HBEL3.out _)⟩)
    | (go_ret
       have hg1 := belowP_grown HBEL1.out (some gf)
       have hz2 := HG2.out.size
       have hz1 := HBEL1.out.size
       have hbl := Blk.new w2 5 [.int .u8 (fixed + n)]
       refine ⟨[fixed + n], some ⟨w2.heap.size, 0, none⟩, 1, st2, rfl, .inl rfl, ?_, HB2.out.alloc _, grownP_trans (grownP_trans hg1 HG2.out) (World.grownBy_alloc _ _ _)⟩
       exact blk_own (n := 1) hbl (by omega) (by simp) (by simp [maxLen]))

/-- A string's bytes as numbers. -/
def numsS (s : ByteArray) : List Int := s.data.toList.map fun b => (b.toNat : Int)
theorem numsS_length (s : ByteArray) : (numsS s).length = s.size := by simp [numsS]
theorem strCells_bs (s : ByteArray) : Lib.strCells s = bs (numsS s) := by simp [Lib.strCells, bs, numsS]
/-- 'append(x, s...)', x of the call's own. -/
theorem step_append_str {w : World} {B n c : Nat} {A : Option Addr} {s : ByteArray} {l : List Int} {ops : Array Oper} {o : Oper} {a : Act} {K : Act → World → Prop} {Q : Exit → Act → World → Prop} {E : Prop} (hgd : o.guard = none) (x y : Operand)
    (ho : o.op = .call { callee := .builtin .append, args := #[x, y], argTypes := #[24, 9] }) (hs : a.eval x = .slice A n c) (hx : a.eval y = .string s)
    (hown : w.ownsRow B 5 1 (.slice A n c) n (bs l)) (hB : B ≤ w.heap.size) (hn : n + s.size ≤ 140737488355328)
    (h : ∀ A' c' w', Hid (w'.ownsRow B 5 1 (.slice A' (n + s.size) c') (n + s.size) (bs (l ++ numsS s))) → Hid (w.grownBy w' (Value.slice A n c).ownBlock) → K (a.put o.dst (.slice A' (n + s.size) c')) w') :
    if Region.wanted o (yielded ops a.tmps) = true then Oper.wp Tryd.prog o a w K Q else E := by
  have hwd : Region.wanted o (yielded ops a.tmps) = true := by simp [Region.wanted, hgd]
  rw [if_pos hwd]
  obtain ⟨i0, hi0, hz0, hz1, hz2⟩ := info_parts infoU8
  obtain ⟨v', w', hr, h2, h3, h4⟩ := Lib.run_append_own_string (P := Tryd.prog) (w := w) B 24 9 o.type 5 i0 Tryd.underlying24 Tryd.underlying9 hi0 hz0 hz1 hz2 _ n (bs l) hown s (by simp only [maxLen]; omega) hn hB
  rw [strCells_bs, ← bs_append] at h2
  obtain ⟨A', c', rfl⟩ := own_formP h2
  unfold Oper.wp execOp
  simp only [ho, resolve, invoke, builtin, Sem.run_bind, Sem.run_pure, Result.andThen_ok, List.map_toArray, List.map_cons, List.map_nil, hs, hx, hr]
  exact h A' c' w' h2 h3
end Go.Proofs.YtfhaddnacdjpoaaDoor
