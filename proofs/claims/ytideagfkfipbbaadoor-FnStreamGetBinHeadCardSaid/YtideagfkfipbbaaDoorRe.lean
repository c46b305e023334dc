/- A Reader's steps as a whole; ReadBool. PRINTED by wip/genre.py. -/
import Derived.Test.YtideagfkfipbbaaDoorRd
namespace Go.Proofs.YtideagfkfipbbaaDoor
open Go.RowKit
set_option linter.unusedVariables false

theorem SR.kt {w0 W : World} {B gs gd sz : Nat} {ch : Int} {tot : List Int} (h : SR w0 B gs gd sz ch tot W) : KT w0 W := by
  obtain ⟨vr, old, ahead, rest, Ad, cd, hs, ht⟩ := h
  exact hs.kt
theorem SR.self {w0 W : World} {B gs gd sz : Nat} {ch : Int} {tot : List Int} (h : SR w0 B gs gd sz ch tot W) : SR W B gs gd sz ch tot W := by
  obtain ⟨vr, old, ahead, rest, Ad, cd, hs, ht⟩ := h
  exact ⟨vr, old, ahead, rest, Ad, cd, { hs with bel := Below.refl _ _, kt := KT.refl _ }, ht⟩
theorem SR.base {w0 W1 W : World} {B gs gd sz : Nat} {ch : Int} {tot : List Int} (h : SR W1 B gs gd sz ch tot W) (hb : Below B w0 W1) (hk : KT w0 W1) : SR w0 B gs gd sz ch tot W := by
  obtain ⟨vr, old, ahead, rest, Ad, cd, hs, ht⟩ := h
  exact ⟨vr, old, ahead, rest, Ad, cd, { hs with bel := hb.trans hs.bel, kt := hk.trans hs.kt }, ht⟩
theorem RS.kt {w0 W : World} {B gr : Nat} {tot : List Int} (h : RS w0 B gr tot W) : KT w0 W := by
  obtain ⟨gs, gd, sz, ch, xs, hb, hB, hs⟩ := h
  exact hs.kt
theorem RS.bel {w0 W : World} {B gr : Nat} {tot : List Int} (h : RS w0 B gr tot W) : Below B w0 W := by
  obtain ⟨gs, gd, sz, ch, xs, hb, hB, hs⟩ := h
  exact hs.bel
theorem RS.self {w0 W : World} {B gr : Nat} {tot : List Int} (h : RS w0 B gr tot W) : RS W B gr tot W := by
  obtain ⟨gs, gd, sz, ch, xs, hb, hB, hs⟩ := h
  exact ⟨gs, gd, sz, ch, xs, hb, hB, hs.self⟩
theorem RS.base {w0 W1 W : World} {B gr : Nat} {tot : List Int} (h : RS W1 B gr tot W) (hb : Below B w0 W1) (hk : KT w0 W1) : RS w0 B gr tot W := by
  obtain ⟨gs, gd, sz, ch, xs, hr, hB, hs⟩ := h
  exact ⟨gs, gd, sz, ch, xs, hr, hB, hs.base hb hk⟩
theorem RS.drewN {w0 W : World} {B gr : Nat} {tot : List Int} (h : RS w0 B gr tot W) (n : Nat) : RS w0 B gr tot (W.drewN n) := by
  obtain ⟨gs, gd, sz, ch, xs, hb, hB, hs⟩ := h
  exact ⟨gs, gd, sz, ch, xs, hb.drewN n, hB, hs.drewN n⟩
/-- A row of another type grows. -/
theorem RS.grown {w0 W W2 : World} {B gr : Nat} {tot : List Int} (h : RS w0 B gr tot W) {row : Option Nat} (hg : W.grownBy W2 row) (T : TypeId) (h1 : T ≠ 92) (h2 : T ≠ 85) (h3 : T ≠ 5) (h4 : T ≠ 62)
    (hr : ∀ k, row = some k → B ≤ k ∧ ∃ cs, Blk W k T cs) : RS W2 B gr tot W2 := by
  obtain ⟨gs, gd, sz, ch, xs, hb, hB, vr, old, ah, rs, Ad, cd, hs, ht⟩ := h
  have hn : ∀ {k t cs}, Blk W k t cs → T ≠ t → some k ≠ row := fun hk hne e => by
    obtain ⟨_, cs, hc⟩ := hr _ e.symm
    exact hc.ne_ hk hne rfl
  refine ⟨gs, gd, sz, ch, xs, hb.grown hg (hn hb h4), hB, vr, old, ah, rs, Ad, cd, ⟨hs.src.grown hg (hn hs.src h1), hs.drp.grown hg (hn hs.drp h2), ?_, ?_, hs.far, hs.dc, hs.dm, hs.lo, hs.hi, hs.c0, hs.c1, hs.bs_, hs.bd, Below.refl _ _, Nat.le_trans hs.bsz hg.size, KT.refl _, ?_⟩, ht⟩
  · exact (reads_far (W' := W2) hs.rd (fun ad hA hlt => hg.block ad.block hlt (by
      obtain ⟨cs, hc⟩ := hs.a8 ad hA
      exact hn hc h3))).more hg.size
  · rcases hs.room with ⟨a, b⟩ | ⟨g, cs, hv, hbl, hx⟩
    · exact .inl ⟨a, b⟩
    · exact .inr ⟨g, cs, hv, hbl.grown hg (hn hbl h3), hx⟩
  · exact hs.a8.grown hg (fun ad hA => by
      obtain ⟨cs, hc⟩ := hs.a8 ad hA
      exact hn hc h3)

/-- A boolean's byte. -/
def FrmBool (b : Bool) (e : List Int) : Prop := e = [(194 + b.toNat : Int)]
set_option maxHeartbeats 2000000 in
set_option maxRecDepth 100000 in
theorem ReadBool_calls (w0 W : World) (B gr : Nat) (b : Bool) (enc : List Int) (hf : FrmBool b enc) (tot : List Int) (h : RS w0 B gr (enc ++ tot) W) :
    Calls Tryd.prog 15 #[.pointer (some ⟨gr, 0, none⟩)] W (fun e W' => e = .returned (.tuple #[.bool b, .nilIface]) ∧ RS w0 B gr tot W') := by
  unfold FrmBool at hf
  subst hf
  obtain ⟨gs, gd, sz, ch, xs, hb, hB, hs⟩ := h
  rw [List.singleton_append] at hs
  have q := hb.cell 0
  simp only [List.getElem?_cons_zero] at q
  have HBEL := Lib.hid hs.bel
  have HKT := Lib.hid hs.kt
  have HS := Lib.hid hs.self
  have HR := Lib.hid hb
  clear hs hb
  obtain ⟨x, hx⟩ : ∃ x : Int, (194 + b.toNat : Int) = x := ⟨_, rfl⟩
  rw [hx] at HS
  have hxc : (b = true ∧ x = 195) ∨ (b = false ∧ x = 194) := by
    cases b
    · exact .inr ⟨rfl, hx.symm⟩
    · exact .inl ⟨rfl, hx.symm⟩
  clear hx
  rcases hxc with ⟨rfl, rfl⟩ | ⟨rfl, rfl⟩
  all_goals
    go_enter Tryd.func15, Tryd.ntmps15
    go_wp2_with (first
      | (go_at_call 22
         go_must (
           (refine (PeekByte_calls W _ B gs gd sz ch _ tot HS.out).mono ?_)
           rintro e w1 ⟨rfl, hs1⟩
           have hb1 := hs1.kt gr _ _ (by decide) (by decide) (by decide) HR.out
           have q1 := hb1.cell 0
           simp only [List.getElem?_cons_zero] at q1
           have HS1 := Lib.hid hs1
           have HR1 := Lib.hid hb1
           clear hs1 hb1))
      | (go_at_call 24
         go_must (
           (refine (Skip_calls W _ B gs gd sz 1 ch 1 rfl _ HS1.out (by simp) (by omega) (by omega)).mono ?_)
           rintro e w2 ⟨rfl, hs2⟩
           have hb2 := hs2.kt gr _ _ (by decide) (by decide) (by decide) HR.out
           have HS2 := Lib.hid hs2
           have HR2 := Lib.hid hb2
           clear hs2 hb2)))
    go_ret2
    exact ⟨rfl, gs, gd, sz, ch, xs, HR2.out, hB, HS2.out.base HBEL.out HKT.out⟩
end Go.Proofs.YtideagfkfipbbaaDoor
