/- spec.pieces and spec.PutValue at any value that fits, given numbered. By hand. -/
import Derived.Test.YtjjhckbidcdkcaaDoorIh
import Derived.Test.YtjjhckbidcdkcaaDoorIf
namespace Go.Proofs.YtjjhckbidcdkcaaDoor
open Go.RowKit
set_option linter.unusedVariables false

/-- What is known of a value on the way. -/
def QT (B gf : Nat) (sh : Bool) (T : VT) : Prop := PV B gf sh T ∧ PC B gf sh T.bare ∧ ∀ i, i < T.n true → PV B gf sh (T.kid true i)
theorem fitsV_fld {T : VT} (h : FitsV T) : 0 ≤ T.k ∧ T.k < 24 ∧ T.n true ≤ 1 := by
  cases T with
  | nil => exact h.elim
  | mk k u s o n f => exact ⟨h.1.1.1, h.1.1.2.1, h.1.1.2.2.2.2.2.1⟩
/-- pieces at a value that fits. -/
theorem pc_of (B gf : Nat) (sh : Bool) (hgf : B ≤ gf) (k u o : Int) (s : ByteArray) (n : Bool → Nat) (f : Bool → Nat → VT) (hu0 : 0 ≤ u) (n1 : Nat) (hfld : Fld k u s (n false) n1) (hcf : CFt (.mk k u s o n f))
    (hNB : 2 ≤ k → k ≤ 16 → k ≠ 14 → NB B (.mk k u s o n f)) (hct : cntK (.mk k u s o n f) ≤ 500) (hq : ∀ i, i < n false → QT B gf sh (f false i)) (hfit : ∀ i, i < n false → FitsV (f false i)) : PC B gf sh (.mk k u s o n f) := by
  obtain ⟨h0, h1, hk, ht, hnum, _, hn, hs⟩ := hfld
  obtain ⟨c1, _, _, _, _, _, c23⟩ := hcf
  rcases (show k = 0 ∨ k = 1 ∨ (2 ≤ k ∧ k ≤ 16 ∧ k ≠ 14) ∨ k = 14 ∨ k = 17 ∨ k = 18 ∨ k = 19 ∨ k = 20 ∨ k = 21 ∨ k = 22 ∨ k = 23 by omega) with h | h | h | h | h | h | h | h | h | h | h
  · subst h; exact pieces_0 B gf sh u o s n f hgf
  · subst h
    have hu1 : u ≤ 1 := c1 rfl
    rcases (show u = 0 ∨ u = 1 by omega) with h | h
    · subst h; exact pieces_1_0 B gf sh o s n f hgf
    · subst h; exact pieces_1_1 B gf sh o s n f hgf
  · exact pieces_k B gf sh u o s n f hgf k h.1 h.2.1 h.2.2 (hNB h.1 h.2.1 h.2.2)
  · subst h; exact pieces_14 B gf sh u o s n f hgf hs
  · subst h; exact pieces_17 B gf sh u o s n f hgf hs
  · subst h; exact pieces_18 B gf sh u o s n f hgf hs
  · subst h; exact pieces_19 B gf sh u o s n f hgf hs
  · subst h; exact pieces_20 B gf sh u o s n f hgf hs
  · subst h; exact pieces_21 B gf sh u o s n f hgf hn hct (fun i hi => (hq i hi).1)
  · subst h; exact pieces_22 B gf sh u o s n f hgf hn hct (fun i hi => (hq i hi).1)
  · subst h
    obtain ⟨a1, a2⟩ := c23 rfl
    exact pieces_23 B gf sh u o s n f hgf (ar_of B gf sh hgf 23 u o s n f a1 (fun i hi => (a2 i hi).1) (fun i hi => fitsV_fld (hfit i hi)) hn hct (fun i hi => (hq i hi).2.1) (fun hp hd => (hq 0 hp).2.2 0 (by omega)))
/-- PutValue at a value that fits. -/
theorem q_all (B gf : Nat) (sh : Bool) (hgf : B ≤ gf) (hNB : ∀ (k u o : Int) (s : ByteArray) (n : Bool → Nat) (f : Bool → Nat → VT), 2 ≤ k → k ≤ 16 → k ≠ 14 → NB B (.mk k u s o n f)) :
    ∀ T : VT, FitsV T → T.cnt ≤ 500 → (∀ U : VT, True) → QT B gf sh T
  | .nil, h, _, _ => h.elim
  | .mk k u s o n f, hF, hct, _ => by
    obtain ⟨⟨hfld, hcf⟩, hkids⟩ := hF
    have hcc := cnt_cntK (.mk k u s o n f)
    have hcK : cntK (.mk k u s o n f) = 1 + sumV (fun i => (f false i).cnt) (n false) := rfl
    have hsub : ∀ b i, i < n b → (f b i).cnt ≤ 500 := fun b i hi => by
      have h1 := sumV_le (fun i => (f b i).cnt) (show i + 1 ≤ n b by omega)
      have h2 : sumV (fun i => (f b i).cnt) (i + 1) = sumV (fun i => (f b i).cnt) i + (f b i).cnt := rfl
      have h3 : sumV (fun i => ((VT.mk k u s o n f).kid true i).cnt) ((VT.mk k u s o n f).n true) = sumV (fun i => (f true i).cnt) (n true) := rfl
      cases b <;> omega
    have hq : ∀ b i, i < n b → QT B gf sh (f b i) := fun b i hi => q_all B gf sh hgf hNB (f b i) (hkids b i hi) (hsub b i hi) (fun _ => trivial)
    have hu0 : (∀ (W : World) (A : Bool → Option Addr) (c : Bool → Nat), TV W B (.mk k u s o n f) A c → 0 ≤ u) := fun W A c h => h.open_.1.2.2.1
    have hpc : ∀ n' : Bool → Nat, n' false = n false → 0 ≤ u → PC B gf sh (.mk k u s o n' f) := fun n' hn' hu => by
      refine pc_of B gf sh hgf k u o s n' f hu (n true) (by rw [hn']; exact hfld) ?_ (hNB k u o s n' f) ?_ (fun i hi => hq false i (by omega)) (fun i hi => hkids false i (by omega))
      · obtain ⟨c1, c2, c3, c4, c5, c6, c7⟩ := hcf
        refine ⟨c1, c2, c3, c4, c5, c6, fun h => ?_⟩
        obtain ⟨a1, a2⟩ := c7 h
        exact ⟨fun h0 => a1 (hn'.symm.trans h0), fun i hi => a2 i (show i < n false by rw [← hn']; exact hi)⟩
      · show 1 + sumV (fun i => (f false i).cnt) (n' false) ≤ 500
        rw [hn']
        omega
    have hpcn : ∀ n' : Bool → Nat, n' false = n false → PC B gf sh (.mk k u s o n' f) := fun n' hn' W st A c h => hpc n' hn' (h.open_.1.2.2.1) W st A c h
    exact ⟨putValue_of B gf sh (.mk k u s o n f) hgf (hpcn n rfl) (fun h => (hq true 0 h).1) hct hfld.2.2.2.2.2.1, hpcn _ rfl, fun i hi => (hq true i hi).1⟩
end Go.Proofs.YtjjhckbidcdkcaaDoor
