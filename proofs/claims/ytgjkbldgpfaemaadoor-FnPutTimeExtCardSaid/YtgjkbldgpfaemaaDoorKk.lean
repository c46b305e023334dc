/- The laws FnPutUint, FnPutInt, FnPutByte: what is appended is read back. The walks. PRINTED by wip/genk.py. -/
import Derived.Test.YtgjkbldgpfaemaaDoorKj
import Derived.Test.YtgjkbldgpfaemaaDoorKi
namespace Go.Proofs.YtgjkbldgpfaemaaDoor
open Go.RowKit
set_option linter.unusedVariables false

/-- A call returned a row of bytes of its own. -/
def AppB (w : World) (B : Nat) (l : List Int) (e : Ending) (w' : World) : Prop :=
  ∃ g cs, e = .returned (.slice (some ⟨g, 0, none⟩) l.length cs.length) ∧ Blk w' g 5 cs ∧ l.length ≤ cs.length ∧ cs.length ≤ maxLen ∧ cs.take l.length = bs l ∧ B ≤ g ∧ Below B w w'
theorem appB {w w' : World} {B : Nat} {l : List Int} {e : Ending} (h : App w B (bs l) e w') : AppB w B l e w' := by
  unfold App at h
  rw [bs_length] at h
  exact h
theorem appB2 {w w' : World} {B : Nat} {l m : List Int} {e : Ending} (h : App w B (bs l ++ bs m) e w') : AppB w B (l ++ m) e w' := by
  rw [← bs_append] at h
  exact appB h
theorem bs_reads {w : World} {g : Nat} {cs : List Value} {l : List Int} (hb : Blk w g 5 cs) (hn : l.length ≤ cs.length) (ht : cs.take l.length = bs l) : Reads w w.heap.size 1 (some ⟨g, 0, none⟩) l.length (bs l) := by
  have h := (hb.reads 0 l.length (by omega)).more (show g + 1 ≤ w.heap.size from hb.lt)
  rwa [List.drop_zero, ht] at h
theorem copied_b (w : World) (A : Option Addr) (c : Nat) (l : List Int) (h : Reads w w.heap.size 1 A l.length (bs l)) (hn : l.length ≤ 70368744177664) :
    Calls Tryd.prog 10 #[.slice A l.length c] w (AppB w w.heap.size l) := by
  have e := copied_calls w A c (bs l) (by rw [bs_length]; exact h) (bs_one l) (by rw [bs_length]; exact hn)
  rw [bs_length] at e
  exact e.mono fun _ _ h => appB h
/-- 'append([]byte{}, l...)'. -/
theorem wpList_append_fresh {w W : World} {A : Option Addr} {l : List Int} {c : Nat} {ops : Array Oper} {rest : List Oper} {o : Oper} {a : Act} {Q : Exit → Act → World → Prop} (hgd : o.guard = none) (s x : Operand)
    (ho : o.op = .call { callee := .builtin .append, args := #[s, x], argTypes := #[22, 22] }) (hs : a.eval s = .slice (some ⟨W.heap.size, 0, none⟩) 0 0) (hx : a.eval x = .slice A l.length c)
    (hw : w = W.alloc (.cells #[] 5)) (hr : Reads W W.heap.size 1 A l.length (bs l)) (hn : l.length ≤ 70368744177664)
    (h : ∀ g cs w', Hid (Blk w' g 5 cs) → l.length ≤ cs.length → cs.length ≤ maxLen → Hid (cs.take l.length = bs l) → W.heap.size ≤ g → Hid (Below W.heap.size W w') → wpList Tryd.prog ops Q rest (a.put o.dst (.slice (some ⟨g, 0, none⟩) l.length cs.length)) w') :
    wpList Tryd.prog ops Q (o :: rest) a w := by
  subst hw
  obtain ⟨i0, hi0, hz0, hz1, hz2⟩ := info_parts infoU8
  refine wpList_append_any _ hgd s x _ ho W.heap.size 5 i0 _ 1 1 Tryd.underlying22 hi0 hz0 hz1 hz2 rfl (by omega) _ 0 [] hs (World.ownsRow_made W _ 0 (Nat.le_refl _) (by simp) (by simp)) W.heap.size A l.length c (bs l) hx (hr.alloc (Nat.le_refl _) _) (bs_one l) (by simp only [maxLen]; omega) (by omega) (by simp) ?_
  intro v1 w1 hown1 hg1 hat1
  have hne : v1 ≠ .slice none 0 0 := by
    rintro rfl
    rcases hat1 with h | h <;> simp [Value.ownBlock] at h
  have hown : w1.ownsRow W.heap.size 5 1 v1 l.length (bs l) := by simpa using hown1
  obtain ⟨g, cs, hv, hk, hB, hn, hm, ht⟩ := own_blk hown (.inr hne)
  rw [hv]
  refine h g cs w1 hk hn hm ht hB (((Below.refl _ _).alloc (Nat.le_refl _) _).grown hg1 (by simp) (fun k hk => ?_))
  simp [Value.ownBlock] at hk
  omega

theorem few_yes (w : World) (A : Option Addr) (n c : Nat) (h : n ≤ 200) : Calls Tryd.prog 5 #[.slice A n c] w fun e w' => e = .returned (.bool true) ∧ w = w' := by
  have hd : decide ((n : Int) ≤ 200) = true := by simp; omega
  go_enter Tryd.func5, Tryd.ntmps5
  go_wp2
  go_ret
  exact ⟨by simp, rfl⟩
theorem few_no (w : World) (A : Option Addr) (n c : Nat) (h : ¬ n ≤ 200) : Calls Tryd.prog 5 #[.slice A n c] w fun e w' => e = .returned (.bool false) ∧ w = w' := by
  have hd : decide ((n : Int) ≤ 200) = false := by simp; omega
  go_enter Tryd.func5, Tryd.ntmps5
  go_wp2
  go_ret
  exact ⟨by simp, rfl⟩

theorem encU_byte (u : Int) (h : u ≤ 255) : (encU u).length ≤ 2 := by
  unfold encU
  split
  · simp
  · simp [be_length]
theorem sx0 (u : Int) (h0 : -9223372036854775808 ≤ u) (h1 : u < 0) : IntKind.u64.wrap u = sx u 0 := by
  unfold sx
  rw [IntKind.wrap_u64]
  omega



end Go.Proofs.YtgjkbldgpfaemaaDoor
