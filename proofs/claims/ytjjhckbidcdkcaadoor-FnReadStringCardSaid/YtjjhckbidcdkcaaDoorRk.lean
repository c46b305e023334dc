/- General parts of the texts on bytes, for a seat without the reference's reader. PRINTED by wip/genrk.py. -/
import Derived.Test.YtjjhckbidcdkcaaDoorKd
import Derived.Deep.QuietTactic
import Derived.BigQuiet
namespace Go.Proofs.YtjjhckbidcdkcaaDoor
open Go.RowKit
set_option linter.unusedVariables false

def IsB (l : List Int) : Prop := ∀ x ∈ l, 0 ≤ x ∧ x ≤ 255
theorem take_snoc_getD (l : List Int) (j : Nat) (h : j < l.length) : l.take (j + 1) = l.take j ++ [l.getD j 0] := by
  rw [List.take_succ_eq_append_getElem h, List.getD_eq_getElem?_getD, List.getElem?_eq_getElem h]; rfl
theorem getD_mem (l : List Int) (j : Nat) (h : j < l.length) : l.getD j 0 ∈ l := by
  rw [List.getD_eq_getElem?_getD, List.getElem?_eq_getElem h]; exact List.getElem_mem h
theorem reads_cut {w : World} {B : Nat} {A A' : Option Addr} {l : List Int} {c k : Nat} (h : Reads w B 1 A l.length (bs l)) (hk : k ≤ l.length) (hc : l.length ≤ c) (hA : A' = if c = k then A else A.map (·.add k)) :
    Reads w B 1 A' (l.drop k).length (bs (l.drop k)) := by
  have hr := h.cut (k := k) (cap := c) hk hc
  simp only [Nat.mul_one, bs_drop] at hr
  rw [hA, List.length_drop]
  exact hr
theorem isB_cons {a : Int} {l : List Int} (h0 : 0 ≤ a) (h1 : a ≤ 255) (h : IsB l) : IsB (a :: l) := by
  intro x hx
  rcases List.mem_cons.1 hx with rfl | hx
  · exact ⟨h0, h1⟩
  · exact h x hx
theorem isB_nil : IsB [] := fun x hx => by cases hx
theorem isB_append {a b : List Int} (ha : IsB a) (hb : IsB b) : IsB (a ++ b) := fun x hx => (List.mem_append.1 hx).elim (ha x) (hb x)
theorem isB_be (u : Int) (k : Nat) : IsB (be u k) := by
  induction k with
  | zero => intro x hx; cases hx
  | succ k ih =>
    intro x hx
    rcases List.mem_cons.1 hx with rfl | hx
    · exact byt_range u k
    · exact ih x hx
/-- A call returned a row of bytes of its own. -/
def AppB (w : World) (B : Nat) (l : List Int) (e : Ending) (w' : World) : Prop :=
  ∃ g cs, e = .returned (.slice (some ⟨g, 0, none⟩) l.length cs.length) ∧ Blk w' g 5 cs ∧ l.length ≤ cs.length ∧ cs.length ≤ maxLen ∧ cs.take l.length = bs l ∧ B ≤ g ∧ Below B w w'
theorem appB {w w' : World} {B : Nat} {l : List Int} {e : Ending} (h : App w B (bs l) e w') : AppB w B l e w' := by
  unfold App at h
  rw [bs_length] at h
  exact h
theorem appB2 {w w' : World} {B : Nat} {l m : List Int} {e : Ending} (h : App w B (bs l ++ bs m) e w') : AppB w B (l ++ m) e w' := by
  rw [← bs_append] at h
  exact appB h
theorem bs_reads {w : World} {g : Nat} {cs : List Value} {l : List Int} (hb : Blk w g 5 cs) (hn : l.length ≤ cs.length) (ht : cs.take l.length = bs l) : Reads w w.heap.size 1 (some ⟨g, 0, none⟩) l.length (bs l) := by
  have h := (hb.reads 0 l.length (by omega)).more (show g + 1 ≤ w.heap.size from hb.lt)
  rwa [List.drop_zero, ht] at h
theorem copied_b (w : World) (A : Option Addr) (c : Nat) (l : List Int) (h : Reads w w.heap.size 1 A l.length (bs l)) (hn : l.length ≤ 70368744177664) :
    Calls Tryd.prog 30 #[.slice A l.length c] w (AppB w w.heap.size l) := by
  have e := copied_calls w A c (bs l) (by rw [bs_length]; exact h) (bs_one l) (by rw [bs_length]; exact hn)
  rw [bs_length] at e
  exact e.mono fun _ _ h => appB h
/-- 'append([]byte{}, l...)'. -/
theorem wpList_append_fresh {w W : World} {A : Option Addr} {l : List Int} {c : Nat} {ops : Array Oper} {rest : List Oper} {o : Oper} {a : Act} {Q : Exit → Act → World → Prop} (hgd : o.guard = none) (s x : Operand)
    (ho : o.op = .call { callee := .builtin .append, args := #[s, x], argTypes := #[26, 26] }) (hs : a.eval s = .slice (some ⟨W.heap.size, 0, none⟩) 0 0) (hx : a.eval x = .slice A l.length c)
    (hw : w = W.alloc (.cells #[] 5)) (hr : Reads W W.heap.size 1 A l.length (bs l)) (hn : l.length ≤ 70368744177664)
    (h : ∀ g cs w', Hid (Blk w' g 5 cs) → l.length ≤ cs.length → cs.length ≤ maxLen → Hid (cs.take l.length = bs l) → W.heap.size ≤ g → Hid (Below W.heap.size W w') → wpList Tryd.prog ops Q rest (a.put o.dst (.slice (some ⟨g, 0, none⟩) l.length cs.length)) w') :
    wpList Tryd.prog ops Q (o :: rest) a w := by
  subst hw
  obtain ⟨i0, hi0, hz0, hz1, hz2⟩ := info_parts infoU8
  refine wpList_append_any _ hgd s x _ ho W.heap.size 5 i0 _ 1 1 Tryd.underlying26 hi0 hz0 hz1 hz2 rfl (by omega) _ 0 [] hs (World.ownsRow_made W _ 0 (Nat.le_refl _) (by simp) (by simp)) W.heap.size A l.length c (bs l) hx (hr.alloc (Nat.le_refl _) _) (bs_one l) (by simp only [maxLen]; omega) (by omega) (by simp) ?_
  intro v1 w1 hown1 hg1 hat1
  have hne : v1 ≠ .slice none 0 0 := by
    rintro rfl
    rcases hat1 with h | h <;> simp [Value.ownBlock] at h
  have hown : w1.ownsRow W.heap.size 5 1 v1 l.length (bs l) := by simpa using hown1
  obtain ⟨g, cs, hv, hk, hB, hn, hm, ht⟩ := own_blk hown (.inr hne)
  rw [hv]
  refine h g cs w1 hk hn hm ht hB (((Below.refl _ _).alloc (Nat.le_refl _) _).grown hg1 (by simp) (fun k hk => ?_))
  simp [Value.ownBlock] at hk
  omega
end Go.Proofs.YtjjhckbidcdkcaaDoor
