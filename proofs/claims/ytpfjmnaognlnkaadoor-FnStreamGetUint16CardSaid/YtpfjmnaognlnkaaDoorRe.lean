/- A Reader's steps as a whole; ReadBool. PRINTED by wip/genre.py. -/
import Derived.Test.YtpfjmnaognlnkaaDoorRd
namespace Go.Proofs.YtpfjmnaognlnkaaDoor
open Go.RowKit
set_option linter.unusedVariables false

theorem SR.kt {w0 W : World} {B gs gd sz : Nat} {ch : Int} {tot : List Int} (h : SR w0 B gs gd sz ch tot W) : KT w0 W := by
  obtain ⟨vr, old, ahead, rest, Ad, cd, hs, ht⟩ := h
  exact hs.kt
theorem SR.self {w0 W : World} {B gs gd sz : Nat} {ch : Int} {tot : List Int} (h : SR w0 B gs gd sz ch tot W) : SR W B gs gd sz ch tot W := by
  obtain ⟨vr, old, ahead, rest, Ad, cd, hs, ht⟩ := h
  exact ⟨vr, old, ahead, rest, Ad, cd, { hs with bel := Below.refl _ _, kt := KT.refl _ }, ht⟩
theorem SR.base {w0 W1 W : World} {B gs gd sz : Nat} {ch : Int} {tot : List Int} (h : SR W1 B gs gd sz ch tot W) (hb : Below B w0 W1) (hk : KT w0 W1) : SR w0 B gs gd sz ch tot W := by
  obtain ⟨vr, old, ahead, rest, Ad, cd, hs, ht⟩ := h
  exact ⟨vr, old, ahead, rest, Ad, cd, { hs with bel := hb.trans hs.bel, kt := hk.trans hs.kt }, ht⟩
theorem RS.kt {w0 W : World} {B gr : Nat} {tot : List Int} (h : RS w0 B gr tot W) : KT w0 W := by
  obtain ⟨gs, gd, sz, ch, xs, hb, hB, hs⟩ := h
  exact hs.kt
theorem RS.bel {w0 W : World} {B gr : Nat} {tot : List Int} (h : RS w0 B gr tot W) : Below B w0 W := by
  obtain ⟨gs, gd, sz, ch, xs, hb, hB, hs⟩ := h
  exact hs.bel
theorem RS.self {w0 W : World} {B gr : Nat} {tot : List Int} (h : RS w0 B gr tot W) : RS W B gr tot W := by
  obtain ⟨gs, gd, sz, ch, xs, hb, hB, hs⟩ := h
  exact ⟨gs, gd, sz, ch, xs, hb, hB, hs.self⟩
theorem RS.base {w0 W1 W : World} {B gr : Nat} {tot : List Int} (h : RS W1 B gr tot W) (hb : Below B w0 W1) (hk : KT w0 W1) : RS w0 B gr tot W := by
  obtain ⟨gs, gd, sz, ch, xs, hr, hB, hs⟩ := h
  exact ⟨gs, gd, sz, ch, xs, hr, hB, hs.base hb hk⟩
theorem RS.drewN {w0 W : World} {B gr : Nat} {tot : List Int} (h : RS w0 B gr tot W) (n : Nat) : RS w0 B gr tot (W.drewN n) := by
  obtain ⟨gs, gd, sz, ch, xs, hb, hB, hs⟩ := h
  exact ⟨gs, gd, sz, ch, xs, hb.drewN n, hB, hs.drewN n⟩
/-- A row of another type grows. -/
theorem RS.grown {w0 W W2 : World} {B gr : Nat} {tot : List Int} (h : RS w0 B gr tot W) {row : Option Nat} (hg : W.grownBy W2 row) (T : TypeId) (h1 : T ≠ 115) (h2 : T ≠ 75) (h3 : T ≠ 5) (h4 : T ≠ 82)
    (hr : ∀ k, row = some k → B ≤ k ∧ ∃ cs, Blk W k T cs) : RS W2 B gr tot W2 := by
  obtain ⟨gs, gd, sz, ch, xs, hb, hB, vr, old, ah, rs, Ad, cd, hs, ht⟩ := h
  have hn : ∀ {k t cs}, Blk W k t cs → T ≠ t → some k ≠ row := fun hk hne e => by
    obtain ⟨_, cs, hc⟩ := hr _ e.symm
    exact hc.ne_ hk hne rfl
  refine ⟨gs, gd, sz, ch, xs, hb.grown hg (hn hb h4), hB, vr, old, ah, rs, Ad, cd, ⟨hs.src.grown hg (hn hs.src h1), hs.drp.grown hg (hn hs.drp h2), ?_, ?_, hs.far, hs.dc, hs.dm, hs.lo, hs.hi, hs.c0, hs.c1, hs.bs_, hs.bd, Below.refl _ _, Nat.le_trans hs.bsz hg.size, KT.refl _, ?_⟩, ht⟩
  · exact (reads_far (W' := W2) hs.rd (fun ad hA hlt => hg.block ad.block hlt (by
      obtain ⟨cs, hc⟩ := hs.a8 ad hA
      exact hn hc h3))).more hg.size
  · rcases hs.room with ⟨a, b⟩ | ⟨g, cs, hv, hbl, hx⟩
    · exact .inl ⟨a, b⟩
    · exact .inr ⟨g, cs, hv, hbl.grown hg (hn hbl h3), hx⟩
  · exact hs.a8.grown hg (fun ad hA => by
      obtain ⟨cs, hc⟩ := hs.a8 ad hA
      exact hn hc h3)

end Go.Proofs.YtpfjmnaognlnkaaDoor
