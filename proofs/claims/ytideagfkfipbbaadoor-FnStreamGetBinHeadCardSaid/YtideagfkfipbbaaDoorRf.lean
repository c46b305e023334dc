/- impl.taking over a Reader: a list of values that are read one by one. PRINTED by wip/genrf.py. -/
import Derived.Test.YtideagfkfipbbaaDoorRe
namespace Go.Proofs.YtideagfkfipbbaaDoor
open Go.RowKit
set_option linter.unusedVariables false

theorem own_formR {w : World} {base n : Nat} {e : TypeId} {size : Nat} {v : Value} {xs : List Value} (h : w.ownsRow base e size v n xs) : ∃ A c, v = .slice A n c ∧ n ≤ c ∧ c ≤ maxLen := by
  rcases h.2 with ⟨rfl, rfl⟩ | ⟨g, cap, cur, rfl, _, _, h1, h2, _⟩
  · exact ⟨none, 0, rfl, Nat.le_refl _, by simp [maxLen]⟩
  · exact ⟨_, cap, rfl, h1, h2⟩
/-- What 'taking' returns. -/
def Got (w : World) (vs : List Value) (e : Ending) (w' : World) : Prop :=
  ∃ A c, e = .returned (.tuple #[.slice A vs.length c, .bool true]) ∧ Reads w' w'.heap.size 1 A vs.length vs ∧ vs.length ≤ c ∧ c ≤ maxLen ∧ Below w.heap.size w w'
theorem own_blkR {w : World} {base n : Nat} {T : TypeId} {v : Value} {xs : List Value} (h : w.ownsRow base T 1 v n xs) : ∀ k, v.ownBlock = some k → base ≤ k ∧ ∃ cs, Blk w k T cs := by
  intro k hk
  have hne : v ≠ .slice none 0 0 := by rintro rfl; simp [Value.ownBlock] at hk
  obtain ⟨g, cs, hv, hb, hB, _, _, _⟩ := own_blk h (.inr hne)
  rw [hv] at hk
  simp [Value.ownBlock] at hk
  subst hk
  exact ⟨by omega, cs, hb⟩
/-- An owned row of another type is kept by a Reader's step. -/
theorem own_kt {w w' : World} {base n : Nat} {T : TypeId} {v : Value} {xs : List Value} (h : w.ownsRow base T 1 v n xs) (hk : KT w w') (h1 : T ≠ 92) (h2 : T ≠ 85) (h3 : T ≠ 5) : w'.ownsRow base T 1 v n xs := by
  by_cases hv : v = .slice none 0 0
  · subst hv
    rcases h.2 with ⟨a, b⟩ | ⟨g, cap, cur, hx, _⟩
    · exact ⟨h.1, .inl ⟨a, b⟩⟩
    · simp at hx
  · obtain ⟨g, cs, rfl, hb, hB, hn, hm, ht⟩ := own_blk h (.inr hv)
    subst ht
    exact blk_own (hk g T cs h1 h2 h3 hb) hB hn hm
/-- Each is read by its own form. -/
def Frms {α : Type} (F : α → List Int → Prop) : List α → List (List Int) → Prop
  | [], [] => True
  | x :: xs, e :: es => F x e ∧ Frms F xs es
  | _, _ => False
theorem Frms.at_ {α : Type} {F : α → List Int → Prop} {l : List α} {ds : List (List Int)} (h : Frms F l ds) (k : Nat) (hk : k < l.length) : ∃ e, (ds.drop k).flatten = e ++ (ds.drop (k + 1)).flatten ∧ F l[k] e := by
  induction l generalizing ds k with
  | nil => simp at hk
  | cons x xs ih =>
    cases ds with
    | nil => exact h.elim
    | cons e es =>
      obtain ⟨h1, h2⟩ := h
      cases k with
      | zero => exact ⟨e, by simp, h1⟩
      | succ k =>
        obtain ⟨e2, h3, h4⟩ := ih h2 k (by simpa using hk)
        exact ⟨e2, by simpa using h3, h4⟩
theorem Frms.len {α : Type} {F : α → List Int → Prop} {l : List α} {ds : List (List Int)} (h : Frms F l ds) : ds.length = l.length := by
  induction l generalizing ds with
  | nil => cases ds with
    | nil => rfl
    | cons e es => exact h.elim
  | cons x xs ih => cases ds with
    | nil => exact h.elim
    | cons e es => simp [ih h.2]
theorem Frms.snoc {α : Type} {F : α → List Int → Prop} {l : List α} {ds : List (List Int)} (h : Frms F l ds) {x : α} {e : List Int} (hx : F x e) : Frms F (l ++ [x]) (ds ++ [e]) := by
  induction l generalizing ds with
  | nil => cases ds with
    | nil => exact ⟨hx, trivial⟩
    | cons e es => exact h.elim
  | cons y ys ih => cases ds with
    | nil => exact h.elim
    | cons e es => exact ⟨h.1, ih h.2⟩
theorem Frms.bound {α : Type} {F : α → List Int → Prop} {l : List α} {ds : List (List Int)} (h : Frms F l ds) {m : Nat} (hm : ∀ x e, F x e → e.length ≤ m) : ds.flatten.length ≤ m * l.length := by
  induction l generalizing ds with
  | nil => cases ds with
    | nil => simp
    | cons e es => exact h.elim
  | cons y ys ih => cases ds with
    | nil => exact h.elim
    | cons e es =>
      have h1 := hm y e h.1
      have h2 := ih h.2
      simp only [List.flatten_cons, List.length_append, List.length_cons, Nat.mul_succ]
      omega
theorem take_snocG {α : Type} (l : List α) (V : α → Value) (k : Nat) (h : k < l.length) : (l.take (k + 1)).map V = (l.take k).map V ++ [V l[k]] := by
  rw [List.take_succ_eq_append_getElem h, List.map_append]; rfl
theorem grown_alloc {W W2 : World} {o : Obj} {row : Option Nat} (h : (W.alloc o).grownBy W2 row) : W.grownBy W2 row := (World.grownBy_alloc W o row).trans h
theorem KT.grown_far {w0 W W2 : World} (h : KT w0 W) {row : Option Nat} (hg : W.grownBy W2 row) (hr : ∀ r, row = some r → w0.heap.size ≤ r) : KT w0 W2 := fun k t cs x y z hk =>
  (h k t cs x y z hk).grown hg (fun e => by have := hr k e.symm; have := hk.lt; omega)
theorem reads_one1 (w : World) (v : Value) (t : TypeId) : Reads (w.alloc (.cells #[v] t)) (w.heap.size + 1) 1 (some ⟨w.heap.size, 0, none⟩) 1 [v] := by
  refine ⟨rfl, fun _ => ⟨_, rfl, by simp, fun j u hu => ?_⟩⟩
  rw [add_lit, Nat.zero_add]
  exact ((Blk.new w t [v]).cell j).trans hu

theorem infoBool : (Tryd.prog.info? 4).map (fun i => (i.zero, i.size, i.bytes)) = some (some (.bool false), 1, 1) := by kernel_rfl

set_option maxHeartbeats 2000000 in
set_option maxRecDepth 100000 in
theorem StreamGetBool_clo (W : World) (B gr : Nat) (x : Bool) (e : List Int) (hf : FrmBool x e) (tot : List Int) (h : RS W B gr (e ++ tot) W) :
    Calls Tryd.prog 14 #[.pointer (some ⟨gr, 0, none⟩)] W (fun e W' => e = .returned (.tuple #[.bool x, .nilIface]) ∧ RS W B gr tot W') := by
  have H := Lib.hid h
  have HF := Lib.hid hf
  clear h hf
  go_enter Tryd.func14, Tryd.ntmps14
  go_wp2_with (
    (go_at_call 15)
    go_must (
      (refine (ReadBool_calls W _ B gr x e HF.out tot H.out).mono ?_)
      rintro e w1 ⟨rfl, hr⟩
      have HR := Lib.hid hr
      clear hr))
  go_ret2
  exact ⟨rfl, HR.out⟩

set_option maxHeartbeats 4000000 in
set_option maxRecDepth 100000 in
theorem StreamGetBool_taking (w : World) (A : Option Addr) (c sz : Nat) (ch : Int) (l : List Bool) (ds : List (List Int)) (d : List Int) (hdd : d = ds.flatten) (hd : Frms FrmBool l ds) (h : Reads w w.heap.size 1 A d.length (bs d)) (h0 : 18 ≤ sz) (h1 : sz ≤ 65536) (hc0 : 1 ≤ ch) (hc1 : ch ≤ 65536) (hl : l.length ≤ 100) (hdl : d.length ≤ 1000000) :
    Calls Tryd.prog 13 #[.slice A d.length c, .int .i64 l.length, .int .i64 sz, .int .i64 ch, .func (.func 14) #[] #[]] w (Got w (l.map fun x => .bool x)) := by
  obtain ⟨i0, hi0, hz0, hz1, hz2⟩ := info_parts infoBool
  have H := Lib.hid h
  have HD := Lib.hid hd
  have HDD := Lib.hid hdd
  have hms : min (sz : Int) 65536 = sz := by omega
  have hml : min (l.length : Int) 65536 = l.length := by omega
  clear h hd hdd
  go_enter Tryd.func13, Tryd.ntmps13
  go_wp2_with (
    (go_at_call 21)
    go_must (
      (refine (reading_calls w A c d sz ch H.out (by omega) (by omega) h1 hc0 hc1).mono ?_)
      rintro e w1 ⟨gr, rfl, hr⟩
      rw [HDD.out] at hr
      have HR := Lib.hid hr
      clear hr hms))
  clear hml
  go_loopw [13, 24] (fun v i wr => ∃ (k : Nat) (A' : Option Addr) (c' : Nat), k ≤ l.length ∧ i = .int .i64 k ∧ v = .slice A' k c' ∧ Hid (RS w w.heap.size gr (ds.drop k).flatten wr ∧ wr.ownsRow w.heap.size 4 1 (.slice A' k c') k ((l.take k).map fun x => .bool x))) (fun _ i _ => l.length - (intOf i).toNat)
  case atStart => exact ⟨0, none, 0, Nat.zero_le _, rfl, rfl, HR.out, by simp, .inl ⟨rfl, rfl⟩⟩
  case round =>
    obtain ⟨k, A', c', hk, rfl, rfl, hrest⟩ := hrel
    by_cases hlt : k < l.length
    · obtain ⟨e, he, hfe⟩ := HD.out.at_ k hlt
      have HSN := Lib.hid (take_snocG l (fun x => .bool x) k hlt)
      generalize l[k] = x at *
      have HFE := Lib.hid hfe
      have hrs : RS wr w.heap.size gr (e ++ (ds.drop (k + 1)).flatten) wr := by rw [← he]; exact hrest.out.1.self
      have HRS := Lib.hid hrs
      clear he hrs hfe
      go_wp2_with (first
        | (go_at_call 14
           go_must (
             (refine (StreamGetBool_clo wr w.heap.size gr x e HFE.out _ HRS.out).mono ?_)
             rintro e2 w2 ⟨rfl, hr2⟩
             have hown := own_kt hrest.out.2 hr2.kt (by decide) (by decide) (by decide)
             have hbel2 := hrest.out.1.bel
             have hr3 := hr2.base hbel2 hrest.out.1.kt
             have hwz : w.heap.size ≤ w2.heap.size := Nat.le_trans hbel2.size hr2.bel.size
             have HR3 := Lib.hid hr3
             have HOWN := Lib.hid hown
             clear hr2 hown hbel2 hr3))
        | ((at_builtin)
           go_must (
             (refine wpList_append_any _ rfl (.tmp 34) (.tmp 36) 22 rfl w.heap.size 4 i0 _ 1 1 Tryd.underlying22 hi0 hz0 hz1 hz2 rfl (by omega) (.slice A' k c') k _ rfl (HOWN.out.alloc _) (w2.heap.size + 1) _ 1 1 [.bool x] rfl (reads_one1 _ _ _) (by simp [Value.oneCell']) (by simp only [maxLen]; omega) (by omega) (by simp; omega) ?_)
             intro v1 w3 hown1 hg1 hat1
             obtain ⟨A1', c1', rfl, _, _⟩ := own_formR hown1
             have HO1 := Lib.hid hown1
             have HG1 := Lib.hid hg1
             clear hown1 hg1 hat1)))
      go_roundw
      case rel =>
        refine ⟨k + 1, A1', c1', by omega, by go_num, rfl, ?_, ?_⟩
        · have hb := own_blkR HOWN.out
          exact (HR3.out.grown (grown_alloc HG1.out) 4 (by decide) (by decide) (by decide) (by decide) hb).base (HR3.out.bel.grown (grown_alloc HG1.out) hwz (fun r hr => (hb r hr).1)) (HR3.out.kt.grown_far (grown_alloc HG1.out) (fun r hr => (hb r hr).1))
        · rw [HSN.out]; exact HO1.out
      case measure => simp [intOf]; omega
    · obtain rfl : k = l.length := by omega
      go_wp2
      go_ret2
      have hown := hrest.out.2
      rw [List.take_length] at hown
      obtain ⟨A9, c9, hv9, h8, h9⟩ := own_formR hown
      injection hv9 with e1 e2 e3
      subst e3
      have hrd := Reads.of_own hown
      refine ⟨A', c', by simp, ?_, by simpa using h8, h9, hrest.out.1.bel⟩
      simpa using hrd

set_option maxHeartbeats 2000000 in
set_option maxRecDepth 100000 in
theorem StreamGetBool_calls (w : World) (A : Option Addr) (c sz : Nat) (ch : Int) (l : List Bool) (ds : List (List Int)) (d : List Int) (hdd : d = ds.flatten) (hd : Frms FrmBool l ds) (h : Reads w w.heap.size 1 A d.length (bs d)) (h0 : 18 ≤ sz) (h1 : sz ≤ 65536) (hc0 : 1 ≤ ch) (hc1 : ch ≤ 65536) (hl : l.length ≤ 100) (hdl : d.length ≤ 1000000) :
    Calls Tryd.prog 5 #[.slice A d.length c, .int .i64 l.length, .int .i64 sz, .int .i64 ch] w (Got w (l.map fun x => .bool x)) := by
  have H := Lib.hid h
  have HD := Lib.hid hd
  have HDD := Lib.hid hdd
  clear h hd hdd
  go_enter Tryd.func5, Tryd.ntmps5
  go_wp2_with (
    (go_at_call 13)
    go_must (
      (refine (StreamGetBool_taking w A c sz ch l ds d HDD.out HD.out H.out h0 h1 hc0 hc1 hl hdl).mono ?_)
      rintro e w1 ⟨A1, c1, rfl, hg⟩
      have HG := Lib.hid hg
      clear hg))
  go_ret2
  exact ⟨A1, c1, by simp, HG.out⟩
end Go.Proofs.YtideagfkfipbbaaDoor
