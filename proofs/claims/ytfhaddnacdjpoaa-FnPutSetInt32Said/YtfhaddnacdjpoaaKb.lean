/- Contracts of the small functions of msgp that append: copied, ensure. -/
import Derived.Test.YtfhaddnacdjpoaaKa
import Derived.Test.YtfhaddnacdjpoaaProg
import Derived.Lib.Hide
import Derived.Outline
import Derived.Deep.DeepMust
namespace Go.Proofs.Ytfhaddnacdjpoaa
open Go.RowKit

theorem infoU8 : (Try.prog.info? 5).map (fun i => (i.zero, i.size, i.bytes)) = some (some (.int .u8 0), 1, 1) := by kernel_rfl

/-- What 'ensure' leaves: a row at the head of a block of the call's own, that begins with what was there; nothing that was there has turned. -/
def Ensured (w : World) (g : Nat) (xs : List Value) (sz : Nat) (e : Ending) (w' : World) : Prop :=
  ∃ g' cs', e = .returned (.tuple #[.slice (some ⟨g', 0, none⟩) (xs.length + sz) cs'.length, .int .i64 xs.length]) ∧ Blk w' g' 5 cs' ∧ xs.length + sz ≤ cs'.length ∧ cs'.length ≤ maxLen ∧ cs'.take xs.length = xs ∧
    Below w.heap.size w w' ∧ (g' = g ∨ g' = w.heap.size)

theorem ensure_made {w w1 : World} {g N : Nat} {e : TypeId} {xs zs : List Value} (ho : w1.ownsRow w.heap.size e 1 (.slice (some ⟨w.heap.size, 0, none⟩) N N) N zs) (hg : w.grownBy w1 none)
    (HC : Hid (∀ j u, xs[j]? = some u → w.cell? ⟨g, j, none⟩ = some u)) :
    ∃ c2 : List Value, c2.length = N ∧ Hid (Blk w1 w.heap.size e c2) ∧ Hid (∀ j u, xs[j]? = some u → w1.cell? ((⟨g, 0, none⟩ : Addr).add j) = some u) := by
  obtain ⟨g', c2, hv, hb, _, _, _, _⟩ := own_blk ho (.inr (by simp))
  simp only [Value.slice.injEq, Option.some.injEq, Addr.mk.injEq] at hv
  obtain ⟨⟨rfl, _, _⟩, _, hl⟩ := hv
  refine ⟨c2, hl.symm, hb, fun j u hu => ?_⟩
  rw [add_lit, Nat.zero_add]
  exact hg.cell (HC.out j u hu) (by simp)

set_option maxHeartbeats 1000000 in
theorem ensure_calls (w : World) (g sz : Nat) (cs xs : List Value) (hb : Blk w g 5 cs) (hx : cs.take xs.length = xs) (hm : cs.length ≤ maxLen) (hs : xs.length + sz ≤ 1099511627776) (h1 : ∀ u ∈ xs, u.oneCell' = true) :
    Calls Try.prog 31 #[.slice (some ⟨g, 0, none⟩) xs.length cs.length, .int .i64 sz] w (Ensured w g xs sz) := by
  obtain ⟨i0, hi0, hz0, hz1, hz2⟩ := info_parts infoU8
  have hn : xs.length ≤ cs.length := by
    have := congrArg List.length hx
    rw [List.length_take] at this
    omega
  have hcells : ∀ j u, xs[j]? = some u → w.cell? ⟨g, j, none⟩ = some u := by
    intro j u hu
    have hj : j < xs.length := by
      rcases Nat.lt_or_ge j xs.length with h | h
      · exact h
      · rw [List.getElem?_eq_none h] at hu; cases hu
    have e : (cs.take xs.length)[j]? = xs[j]? := by rw [hx]
    rw [List.getElem?_take, if_pos hj] at e
    rw [hb.cell, e, hu]
  have hgl := hb.lt
  have HB := Lib.hid hb
  have HX := Lib.hid hx
  have HC := Lib.hid hcells
  have H1 := Lib.hid h1
  have hm' : cs.length ≤ 9223372036854775807 := by unfold maxLen at hm; omega
  clear hb hx hcells h1
  by_cases hc : (cs.length : Int) - (xs.length : Int) < (sz : Int)
  · have hcd : decide ((cs.length : Int) - (xs.length : Int) < (sz : Int)) = true := by simp; omega
    have hsm : cs.length ≤ 1099511627776 := by omega
    go_enter Try.func31, Try.ntmps31
    go_wp2_with (first
      | (at_make
         refine wpList_make_full _ rfl (.tmp 22) (.tmp 22) _ rfl w.heap.size 5 i0 _ 1 Try.underlying22 hi0 hz0 hz1 .i64 .i64 _ _ (2 * cs.length + sz) rfl rfl (by omega) (by omega) (by rw [hz2]; omega) (by simp only [maxLen]; omega) (Nat.le_refl _) ?_
         intro w1 hown1 hg1
         obtain ⟨c2, hl2, HB2, HS2⟩ : ∃ c2 : List Value, c2.length = 2 * cs.length + sz ∧ Hid (Blk w1 w.heap.size 5 c2) ∧ Hid (∀ j u, xs[j]? = some u → w1.cell? ((⟨g, 0, none⟩ : Addr).add j) = some u) := ensure_made hown1 hg1 HC
         have HL2 := Lib.hid hl2
         clear hl2 hown1)
      | ((with_reducible refine gate_dst (N := 26) rfl ?_)
         go_must (
           (refine wpList_copy_splice rfl (.tmp 24) (.tmp 25) 22 22 rfl 5 Try.underlying22 (by kernel_rfl) _ _ _ _ _ _ rfl rfl w.heap.size 0 c2 5 HB2.out xs ?_ ?_ ?_ H1.out w.heap.size w ?_ (Nat.le_refl _) ?_)
           · exact (Nat.min_eq_left (by omega)).symm
           · exact fun _ => ⟨rfl, _, rfl, HS2.out⟩
           · rw [HL2.out]; omega
           · exact (Below.refl _ _).grown hg1 (Nat.le_refl _) (fun _ h => by cases h)
           intro w2 hb2 hbel2)))
    go_ret2
    have hls : (splice c2 0 xs).length = 2 * cs.length + sz := by rw [length_splice c2 0 xs (by rw [HL2.out]; omega)]; exact HL2.out
    exact ⟨w.heap.size, splice c2 0 xs, by rw [hls]; rfl, hb2.out, by rw [hls]; omega, by rw [hls]; simp only [maxLen]; omega, by simp [splice], hbel2, .inr rfl⟩
  · have hcd : decide ((cs.length : Int) - (xs.length : Int) < (sz : Int)) = false := by simp; omega
    go_enter Try.func31, Try.ntmps31
    go_wp2
    go_ret2
    exact ⟨g, cs, rfl, HB.out, by omega, hm, HX.out, Below.refl _ _, .inl rfl⟩
/-- The same, the number given as an Int. -/
theorem ensure_int (w : World) (g sz : Nat) (z : Int) (hz : z = (sz : Int)) (cs xs : List Value) (hb : Blk w g 5 cs) (hx : cs.take xs.length = xs) (hm : cs.length ≤ maxLen) (hs : xs.length + sz ≤ 1099511627776) (h1 : ∀ u ∈ xs, u.oneCell' = true) :
    Calls Try.prog 31 #[.slice (some ⟨g, 0, none⟩) xs.length cs.length, .int .i64 z] w (Ensured w g xs sz) := by
  subst hz
  exact ensure_calls w g sz cs xs hb hx hm hs h1
end Go.Proofs.Ytfhaddnacdjpoaa
