/- AMQP: readType, readUint, readInt32. PRINTED by wip/genir.py. -/
import Derived.Test.YtjjhckbidcdkcaaDoorIq
namespace Go.Proofs.YtjjhckbidcdkcaaDoor
open Go.RowKit
set_option linter.unusedVariables false

/-- io.EOF holds an error, below block gb. -/
def EofS (w : World) (gb : Nat) : Prop := 2 < gb ∧ ∃ te ve, w.cell? ⟨2, 0, none⟩ = some (.iface te ve)
theorem EofS.below {w w' : World} {gb : Nat} (h : EofS w gb) (hb : Below gb w w') : EofS w' gb := by
  obtain ⟨h1, te, ve, h2⟩ := h
  exact ⟨h1, te, ve, (hb.cell h1).trans h2⟩
/-- A call that reads: a value, so many bytes on; or an error. -/
def RPost (mk : Int → Value) (p : Option (Int × Nat)) (gb : Nat) (d : List Int) (w : World) (e : Ending) (w' : World) : Prop :=
  match p with
  | some (v, j) => e = .returned (.tuple #[mk v, .nilIface]) ∧ RdS w' gb d j ∧ Below gb w w'
  | none => (∃ x t y, e = .returned (.tuple #[x, .iface t y])) ∧ Below gb w w'
set_option maxHeartbeats 1000000 in
theorem readType_yes (w : World) (gb : Nat) (d : List Int) (i : Nat) (h : RdS w gb d i) (hi : i < d.length) (b : Int) (hb : d[i]? = some b) :
    Calls Tryd.prog 69 #[.pointer (some ⟨gb, 0, none⟩)] w fun e w' => e = .returned (.tuple #[.int .u8 b, .nilIface]) ∧ RdS w' gb d (i + 1) ∧ Below gb w w' := by
  have H := Lib.hid h
  clear h
  go_enter Tryd.func69, Tryd.ntmps69
  go_wp2_with (
    (go_at_call 70)
    go_must (
      (refine (ReadByte_yes w gb d i H.out hi b hb).mono ?_)
      rintro e w1 ⟨rfl, h1, h2⟩
      have H1 := Lib.hid h1
      have H2 := Lib.hid h2
      clear h1 h2))
  go_ret2
  exact ⟨rfl, H1.out, H2.out⟩
set_option maxHeartbeats 1000000 in
theorem readType_no (w : World) (gb : Nat) (d : List Int) (i : Nat) (h : RdS w gb d i) (hi : d.length < i + 1) (te : TypeId) (ve : Value) (hE : w.cell? ⟨2, 0, none⟩ = some (.iface te ve)) :
    Calls Tryd.prog 69 #[.pointer (some ⟨gb, 0, none⟩)] w fun e w' => e = .returned (.tuple #[.int .u8 0, .iface te ve]) ∧ RdS w' gb d i ∧ Below gb w w' := by
  have H := Lib.hid h
  have HE := Lib.hid hE
  clear h hE
  go_enter Tryd.func69, Tryd.ntmps69
  go_wp2_with (
    (go_at_call 70)
    go_must (
      (refine (ReadByte_no w gb d i H.out hi te ve HE.out).mono ?_)
      rintro e w1 ⟨rfl, h1, h2⟩
      have H1 := Lib.hid h1
      have H2 := Lib.hid h2
      clear h1 h2))
  go_ret2
  exact ⟨rfl, H1.out, H2.out⟩
/-- The number of n bytes behind a code. -/
def numB (n : Nat) (r : List Int) : Option (Int × Nat) := if n ≤ r.length then some (valB (r.take n), n + 1) else none
theorem valB_one {r : List Int} (h : 0 < r.length) : valB (r.take 1) = r.getD 0 0 := by
  cases r with
  | nil => simp at h
  | cons a r => simp [valB]
theorem valB_nn {l : List Int} (h : ∀ x ∈ l, 0 ≤ x ∧ x ≤ 255) : ∀ a : Int, 0 ≤ a → 0 ≤ l.foldl (fun a b => a * 256 + b) a ∧ l.foldl (fun a b => a * 256 + b) a < (a + 1) * 256 ^ l.length := by
  induction l with
  | nil => intro a ha; simp; omega
  | cons x l ih =>
    intro a ha
    have hx := h x (List.mem_cons_self ..)
    obtain ⟨h1, h2⟩ := ih (fun y hy => h y (List.mem_cons_of_mem _ hy)) (a * 256 + x) (by omega)
    rw [List.foldl_cons, List.length_cons]
    refine ⟨h1, Int.lt_of_lt_of_le h2 ?_⟩
    have hp : (0 : Int) ≤ 256 ^ l.length := Int.pow_nonneg (by decide)
    have hq : a * 256 + x + 1 ≤ (a + 1) * 256 := by omega
    have h3 := Int.mul_le_mul_of_nonneg_right hq hp
    rw [Int.pow_succ, Int.mul_comm (256 ^ l.length) 256, ← Int.mul_assoc]
    exact h3
theorem valB_range (r : List Int) (n : Nat) (h : ∀ x ∈ r, 0 ≤ x ∧ x ≤ 255) (m : Nat) (hm : 256 ^ n ≤ m) : 0 ≤ valB (r.take n) ∧ valB (r.take n) < (m : Int) := by
  obtain ⟨h1, h2⟩ := valB_nn (l := r.take n) (fun x hx => h x (List.mem_of_mem_take hx)) 0 (by omega)
  refine ⟨h1, Int.lt_of_lt_of_le h2 ?_⟩
  have hp : 256 ^ (r.take n).length ≤ m := Nat.le_trans (Nat.pow_le_pow_right (by omega) (by rw [List.length_take]; omega)) hm
  have hp2 : ((256 ^ (r.take n).length : Nat) : Int) = (256 : Int) ^ (r.take n).length := by simp
  generalize (256 : Int) ^ (r.take n).length = Z at *
  omega
/-- What readUint makes of bytes. -/
def creadUint (c : Int) (r : List Int) : Option (Int × Nat) := if c = 67 then some (0, 1) else if c = 68 then some (0, 1) else if c = 80 then numB 1 r else if c = 82 then numB 1 r else if c = 83 then numB 1 r else if c = 96 then numB 2 r else if c = 112 then numB 4 r else if c = 128 then numB 8 r else none
def preadUint : List Int → Option (Int × Nat)
  | [] => none
  | c :: r => creadUint c r
set_option maxHeartbeats 1000000 in
theorem readUint_nil (w : World) (gb : Nat) (h : RdS w gb [] 0) (te : TypeId) (ve : Value) (hE : w.cell? ⟨2, 0, none⟩ = some (.iface te ve)) :
    Calls Tryd.prog 61 #[.pointer (some ⟨gb, 0, none⟩)] w (RPost (fun v => .int .u64 v) none gb [] w) := by
  have H := Lib.hid h
  have HE := Lib.hid hE
  clear h hE
  go_enter Tryd.func61, Tryd.ntmps61
  go_wp2_with (first
      | (go_at_call 69
         go_must (
           (refine (readType_no w gb [] 0 H.out (by simp) te ve HE.out).mono ?_)
           rintro e w1 ⟨rfl, h1, h2⟩
           have HB1 := Lib.hid h2
           clear h1 h2)))
  go_ret2
  exact ⟨⟨_, _, _, rfl⟩, HB1.out⟩
set_option maxHeartbeats 1000000 in
theorem readUint_67 (w : World) (gb : Nat) (r : List Int) (h : RdS w gb (67 :: r) 0) :
    Calls Tryd.prog 61 #[.pointer (some ⟨gb, 0, none⟩)] w (RPost (fun v => .int .u64 v) (some (0, 1)) gb (67 :: r) w) := by
  have H := Lib.hid h
  clear h
  go_enter Tryd.func61, Tryd.ntmps61
  go_wp2_with (first
      | (go_at_call 69
         go_must (
           (refine (readType_yes w gb (67 :: r) 0 H.out (by simp) _ rfl).mono ?_)
           rintro e w1 ⟨rfl, h1, h2⟩
           have H1 := Lib.hid h1
           have HB1 := Lib.hid h2
           clear h1 h2)))
  go_ret2
  exact ⟨rfl, H1.out, HB1.out⟩
set_option maxHeartbeats 1000000 in
theorem readUint_68 (w : World) (gb : Nat) (r : List Int) (h : RdS w gb (68 :: r) 0) :
    Calls Tryd.prog 61 #[.pointer (some ⟨gb, 0, none⟩)] w (RPost (fun v => .int .u64 v) (some (0, 1)) gb (68 :: r) w) := by
  have H := Lib.hid h
  clear h
  go_enter Tryd.func61, Tryd.ntmps61
  go_wp2_with (first
      | (go_at_call 69
         go_must (
           (refine (readType_yes w gb (68 :: r) 0 H.out (by simp) _ rfl).mono ?_)
           rintro e w1 ⟨rfl, h1, h2⟩
           have H1 := Lib.hid h1
           have HB1 := Lib.hid h2
           clear h1 h2)))
  go_ret2
  exact ⟨rfl, H1.out, HB1.out⟩
set_option maxHeartbeats 1000000 in
theorem readUint_80 (w : World) (gb : Nat) (r : List Int) (h : RdS w gb (80 :: r) 0) (hB : IsByt (80 :: r)) (hE : EofS w gb) :
    Calls Tryd.prog 61 #[.pointer (some ⟨gb, 0, none⟩)] w (RPost (fun v => .int .u64 v) (numB 1 r) gb (80 :: r) w) := by
  have H := Lib.hid h
  have HBY := Lib.hid hB
  have EF := Lib.hid hE
  clear h hB hE
  by_cases hn : 1 ≤ r.length
  · have hv : numB 1 r = some (valB (r.take 1), 2) := by unfold numB; rw [if_pos hn]
    rw [hv]
    have HV : Hid (0 ≤ valB (r.take 1) ∧ valB (r.take 1) < 256) := Lib.hid (valB_range r 1 (fun x hx => HBY.out x (List.mem_cons_of_mem _ hx)) 256 (Nat.le_refl _))
    have HV1 := Lib.hid (valB_one (show 0 < r.length by omega))
    clear hv
    rw [HV1.out] at HV ⊢
    generalize hV : r.getD 0 0 = V at *
    have hv0 : 0 ≤ V := HV.out.1
    have hv1 : V < 256 := HV.out.2
    have hcv : IntKind.u64.wrap V = V := by rw [IntKind.wrap_u64]; omega
    have HW := Lib.hid hV
    clear hV
    go_enter Tryd.func61, Tryd.ntmps61
    go_wp2_with (first
      | (go_at_call 69
         go_must (
           (refine (readType_yes w gb (80 :: r) 0 H.out (by simp) _ rfl).mono ?_)
           rintro e w1 ⟨rfl, h1, h2⟩
           have H1 := Lib.hid h1
           have HB1 := Lib.hid h2
           clear h1 h2))
      | (go_at_call 70
         go_must (
           (refine (ReadByte_yes w1 gb (80 :: r) 1 H1.out (by simp only [List.length_cons]; omega) V (by rw [← HW.out]; cases r with | nil => simp at hn | cons a r => rfl)).mono ?_)
           rintro e w2 ⟨rfl, h1, h2⟩
           have H2 := Lib.hid h1
           have HB2 := Lib.hid (HB1.out.trans h2)
           clear h1 h2)))
    go_ret2
    exact ⟨rfl, H2.out, HB2.out⟩
  · have hv : numB 1 r = none := by unfold numB; rw [if_neg hn]
    rw [hv]
    go_enter Tryd.func61, Tryd.ntmps61
    go_wp2_with (first
      | (go_at_call 69
         go_must (
           (refine (readType_yes w gb (80 :: r) 0 H.out (by simp) _ rfl).mono ?_)
           rintro e w1 ⟨rfl, h1, h2⟩
           have H1 := Lib.hid h1
           have HB1 := Lib.hid h2
           clear h1 h2))
      | (go_at_call 70
         go_must (
           (have hE1 := EF.out.below HB1.out)
           obtain ⟨-, te1, ve1, hE2⟩ := hE1
           refine (ReadByte_no w1 gb (80 :: r) 1 H1.out (by simp only [List.length_cons]; omega) te1 ve1 hE2).mono ?_
           rintro e w2 ⟨rfl, h1, h2⟩
           have HB2 := Lib.hid (HB1.out.trans h2)
           clear h1 h2 hE2)))
    go_ret2
    exact ⟨⟨_, _, _, rfl⟩, HB2.out⟩
set_option maxHeartbeats 1000000 in
theorem readUint_82 (w : World) (gb : Nat) (r : List Int) (h : RdS w gb (82 :: r) 0) (hB : IsByt (82 :: r)) (hE : EofS w gb) :
    Calls Tryd.prog 61 #[.pointer (some ⟨gb, 0, none⟩)] w (RPost (fun v => .int .u64 v) (numB 1 r) gb (82 :: r) w) := by
  have H := Lib.hid h
  have HBY := Lib.hid hB
  have EF := Lib.hid hE
  clear h hB hE
  by_cases hn : 1 ≤ r.length
  · have hv : numB 1 r = some (valB (r.take 1), 2) := by unfold numB; rw [if_pos hn]
    rw [hv]
    have HV : Hid (0 ≤ valB (r.take 1) ∧ valB (r.take 1) < 256) := Lib.hid (valB_range r 1 (fun x hx => HBY.out x (List.mem_cons_of_mem _ hx)) 256 (Nat.le_refl _))
    have HV1 := Lib.hid (valB_one (show 0 < r.length by omega))
    clear hv
    rw [HV1.out] at HV ⊢
    generalize hV : r.getD 0 0 = V at *
    have hv0 : 0 ≤ V := HV.out.1
    have hv1 : V < 256 := HV.out.2
    have hcv : IntKind.u64.wrap V = V := by rw [IntKind.wrap_u64]; omega
    have HW := Lib.hid hV
    clear hV
    go_enter Tryd.func61, Tryd.ntmps61
    go_wp2_with (first
      | (go_at_call 69
         go_must (
           (refine (readType_yes w gb (82 :: r) 0 H.out (by simp) _ rfl).mono ?_)
           rintro e w1 ⟨rfl, h1, h2⟩
           have H1 := Lib.hid h1
           have HB1 := Lib.hid h2
           clear h1 h2))
      | (go_at_call 70
         go_must (
           (refine (ReadByte_yes w1 gb (82 :: r) 1 H1.out (by simp only [List.length_cons]; omega) V (by rw [← HW.out]; cases r with | nil => simp at hn | cons a r => rfl)).mono ?_)
           rintro e w2 ⟨rfl, h1, h2⟩
           have H2 := Lib.hid h1
           have HB2 := Lib.hid (HB1.out.trans h2)
           clear h1 h2)))
    go_ret2
    exact ⟨rfl, H2.out, HB2.out⟩
  · have hv : numB 1 r = none := by unfold numB; rw [if_neg hn]
    rw [hv]
    go_enter Tryd.func61, Tryd.ntmps61
    go_wp2_with (first
      | (go_at_call 69
         go_must (
           (refine (readType_yes w gb (82 :: r) 0 H.out (by simp) _ rfl).mono ?_)
           rintro e w1 ⟨rfl, h1, h2⟩
           have H1 := Lib.hid h1
           have HB1 := Lib.hid h2
           clear h1 h2))
      | (go_at_call 70
         go_must (
           (have hE1 := EF.out.below HB1.out)
           obtain ⟨-, te1, ve1, hE2⟩ := hE1
           refine (ReadByte_no w1 gb (82 :: r) 1 H1.out (by simp only [List.length_cons]; omega) te1 ve1 hE2).mono ?_
           rintro e w2 ⟨rfl, h1, h2⟩
           have HB2 := Lib.hid (HB1.out.trans h2)
           clear h1 h2 hE2)))
    go_ret2
    exact ⟨⟨_, _, _, rfl⟩, HB2.out⟩
set_option maxHeartbeats 1000000 in
theorem readUint_83 (w : World) (gb : Nat) (r : List Int) (h : RdS w gb (83 :: r) 0) (hB : IsByt (83 :: r)) (hE : EofS w gb) :
    Calls Tryd.prog 61 #[.pointer (some ⟨gb, 0, none⟩)] w (RPost (fun v => .int .u64 v) (numB 1 r) gb (83 :: r) w) := by
  have H := Lib.hid h
  have HBY := Lib.hid hB
  have EF := Lib.hid hE
  clear h hB hE
  by_cases hn : 1 ≤ r.length
  · have hv : numB 1 r = some (valB (r.take 1), 2) := by unfold numB; rw [if_pos hn]
    rw [hv]
    have HV : Hid (0 ≤ valB (r.take 1) ∧ valB (r.take 1) < 256) := Lib.hid (valB_range r 1 (fun x hx => HBY.out x (List.mem_cons_of_mem _ hx)) 256 (Nat.le_refl _))
    have HV1 := Lib.hid (valB_one (show 0 < r.length by omega))
    clear hv
    rw [HV1.out] at HV ⊢
    generalize hV : r.getD 0 0 = V at *
    have hv0 : 0 ≤ V := HV.out.1
    have hv1 : V < 256 := HV.out.2
    have hcv : IntKind.u64.wrap V = V := by rw [IntKind.wrap_u64]; omega
    have HW := Lib.hid hV
    clear hV
    go_enter Tryd.func61, Tryd.ntmps61
    go_wp2_with (first
      | (go_at_call 69
         go_must (
           (refine (readType_yes w gb (83 :: r) 0 H.out (by simp) _ rfl).mono ?_)
           rintro e w1 ⟨rfl, h1, h2⟩
           have H1 := Lib.hid h1
           have HB1 := Lib.hid h2
           clear h1 h2))
      | (go_at_call 70
         go_must (
           (refine (ReadByte_yes w1 gb (83 :: r) 1 H1.out (by simp only [List.length_cons]; omega) V (by rw [← HW.out]; cases r with | nil => simp at hn | cons a r => rfl)).mono ?_)
           rintro e w2 ⟨rfl, h1, h2⟩
           have H2 := Lib.hid h1
           have HB2 := Lib.hid (HB1.out.trans h2)
           clear h1 h2)))
    go_ret2
    exact ⟨rfl, H2.out, HB2.out⟩
  · have hv : numB 1 r = none := by unfold numB; rw [if_neg hn]
    rw [hv]
    go_enter Tryd.func61, Tryd.ntmps61
    go_wp2_with (first
      | (go_at_call 69
         go_must (
           (refine (readType_yes w gb (83 :: r) 0 H.out (by simp) _ rfl).mono ?_)
           rintro e w1 ⟨rfl, h1, h2⟩
           have H1 := Lib.hid h1
           have HB1 := Lib.hid h2
           clear h1 h2))
      | (go_at_call 70
         go_must (
           (have hE1 := EF.out.below HB1.out)
           obtain ⟨-, te1, ve1, hE2⟩ := hE1
           refine (ReadByte_no w1 gb (83 :: r) 1 H1.out (by simp only [List.length_cons]; omega) te1 ve1 hE2).mono ?_
           rintro e w2 ⟨rfl, h1, h2⟩
           have HB2 := Lib.hid (HB1.out.trans h2)
           clear h1 h2 hE2)))
    go_ret2
    exact ⟨⟨_, _, _, rfl⟩, HB2.out⟩
set_option maxHeartbeats 1000000 in
theorem readUint_96 (w : World) (gb : Nat) (r : List Int) (h : RdS w gb (96 :: r) 0) (hB : IsByt (96 :: r)) (hE : EofS w gb) :
    Calls Tryd.prog 61 #[.pointer (some ⟨gb, 0, none⟩)] w (RPost (fun v => .int .u64 v) (numB 2 r) gb (96 :: r) w) := by
  have H := Lib.hid h
  have HBY := Lib.hid hB
  have EF := Lib.hid hE
  clear h hB hE
  by_cases hn : 2 ≤ r.length
  · have hv : numB 2 r = some (valB (r.take 2), 3) := by unfold numB; rw [if_pos hn]
    rw [hv]
    have HV : Hid (0 ≤ valB (r.take 2) ∧ valB (r.take 2) < 65536) := Lib.hid (valB_range r 2 (fun x hx => HBY.out x (List.mem_cons_of_mem _ hx)) 65536 (Nat.le_refl _))
    skip
    clear hv
    obtain ⟨V, hV⟩ : ∃ V, valB (r.take 2) = V := ⟨_, rfl⟩
    rw [hV] at HV ⊢
    have hv0 : 0 ≤ V := HV.out.1
    have hv1 : V < 65536 := HV.out.2
    have hcv : IntKind.u64.wrap V = V := by rw [IntKind.wrap_u64]; omega
    have HW := Lib.hid hV
    clear hV
    go_enter Tryd.func61, Tryd.ntmps61
    go_wp2_with (first
      | (go_at_call 69
         go_must (
           (refine (readType_yes w gb (96 :: r) 0 H.out (by simp) _ rfl).mono ?_)
           rintro e w1 ⟨rfl, h1, h2⟩
           have H1 := Lib.hid h1
           have HB1 := Lib.hid h2
           clear h1 h2))
      | (go_at_call 83
         go_must (
           (refine (ReadUint16_yes w1 gb (96 :: r) 1 H1.out HBY.out (by simp only [List.length_cons]; omega)).mono ?_)
           rintro e w2 ⟨he, h1, h2⟩
           rw [show (((96 :: r)).drop 1).take 2 = r.take 2 from rfl, HW.out] at he
           subst he
           have H2 := Lib.hid h1
           have HB2 := Lib.hid (HB1.out.trans h2)
           clear h1 h2)))
    go_ret2
    exact ⟨rfl, H2.out, HB2.out⟩
  · have hv : numB 2 r = none := by unfold numB; rw [if_neg hn]
    rw [hv]
    go_enter Tryd.func61, Tryd.ntmps61
    go_wp2_with (first
      | (go_at_call 69
         go_must (
           (refine (readType_yes w gb (96 :: r) 0 H.out (by simp) _ rfl).mono ?_)
           rintro e w1 ⟨rfl, h1, h2⟩
           have H1 := Lib.hid h1
           have HB1 := Lib.hid h2
           clear h1 h2))
      | (go_at_call 83
         go_must (
           (have hE1 := EF.out.below HB1.out)
           obtain ⟨-, te1, ve1, hE2⟩ := hE1
           refine (ReadUint16_no w1 gb (96 :: r) 1 H1.out (by simp only [List.length_cons]; omega) te1 ve1 hE2).mono ?_
           rintro e w2 ⟨rfl, h1, h2⟩
           have HB2 := Lib.hid (HB1.out.trans h2)
           clear h1 h2 hE2)))
    go_ret2
    exact ⟨⟨_, _, _, rfl⟩, HB2.out⟩
set_option maxHeartbeats 1000000 in
theorem readUint_112 (w : World) (gb : Nat) (r : List Int) (h : RdS w gb (112 :: r) 0) (hB : IsByt (112 :: r)) (hE : EofS w gb) :
    Calls Tryd.prog 61 #[.pointer (some ⟨gb, 0, none⟩)] w (RPost (fun v => .int .u64 v) (numB 4 r) gb (112 :: r) w) := by
  have H := Lib.hid h
  have HBY := Lib.hid hB
  have EF := Lib.hid hE
  clear h hB hE
  by_cases hn : 4 ≤ r.length
  · have hv : numB 4 r = some (valB (r.take 4), 5) := by unfold numB; rw [if_pos hn]
    rw [hv]
    have HV : Hid (0 ≤ valB (r.take 4) ∧ valB (r.take 4) < 4294967296) := Lib.hid (valB_range r 4 (fun x hx => HBY.out x (List.mem_cons_of_mem _ hx)) 4294967296 (Nat.le_refl _))
    skip
    clear hv
    obtain ⟨V, hV⟩ : ∃ V, valB (r.take 4) = V := ⟨_, rfl⟩
    rw [hV] at HV ⊢
    have hv0 : 0 ≤ V := HV.out.1
    have hv1 : V < 4294967296 := HV.out.2
    have hcv : IntKind.u64.wrap V = V := by rw [IntKind.wrap_u64]; omega
    have HW := Lib.hid hV
    clear hV
    go_enter Tryd.func61, Tryd.ntmps61
    go_wp2_with (first
      | (go_at_call 69
         go_must (
           (refine (readType_yes w gb (112 :: r) 0 H.out (by simp) _ rfl).mono ?_)
           rintro e w1 ⟨rfl, h1, h2⟩
           have H1 := Lib.hid h1
           have HB1 := Lib.hid h2
           clear h1 h2))
      | (go_at_call 84
         go_must (
           (refine (ReadUint32_yes w1 gb (112 :: r) 1 H1.out HBY.out (by simp only [List.length_cons]; omega)).mono ?_)
           rintro e w2 ⟨he, h1, h2⟩
           rw [show (((112 :: r)).drop 1).take 4 = r.take 4 from rfl, HW.out] at he
           subst he
           have H2 := Lib.hid h1
           have HB2 := Lib.hid (HB1.out.trans h2)
           clear h1 h2)))
    go_ret2
    exact ⟨rfl, H2.out, HB2.out⟩
  · have hv : numB 4 r = none := by unfold numB; rw [if_neg hn]
    rw [hv]
    go_enter Tryd.func61, Tryd.ntmps61
    go_wp2_with (first
      | (go_at_call 69
         go_must (
           (refine (readType_yes w gb (112 :: r) 0 H.out (by simp) _ rfl).mono ?_)
           rintro e w1 ⟨rfl, h1, h2⟩
           have H1 := Lib.hid h1
           have HB1 := Lib.hid h2
           clear h1 h2))
      | (go_at_call 84
         go_must (
           (have hE1 := EF.out.below HB1.out)
           obtain ⟨-, te1, ve1, hE2⟩ := hE1
           refine (ReadUint32_no w1 gb (112 :: r) 1 H1.out (by simp only [List.length_cons]; omega) te1 ve1 hE2).mono ?_
           rintro e w2 ⟨rfl, h1, h2⟩
           have HB2 := Lib.hid (HB1.out.trans h2)
           clear h1 h2 hE2)))
    go_ret2
    exact ⟨⟨_, _, _, rfl⟩, HB2.out⟩
set_option maxHeartbeats 1000000 in
theorem readUint_128 (w : World) (gb : Nat) (r : List Int) (h : RdS w gb (128 :: r) 0) (hB : IsByt (128 :: r)) (hE : EofS w gb) :
    Calls Tryd.prog 61 #[.pointer (some ⟨gb, 0, none⟩)] w (RPost (fun v => .int .u64 v) (numB 8 r) gb (128 :: r) w) := by
  have H := Lib.hid h
  have HBY := Lib.hid hB
  have EF := Lib.hid hE
  clear h hB hE
  by_cases hn : 8 ≤ r.length
  · have hv : numB 8 r = some (valB (r.take 8), 9) := by unfold numB; rw [if_pos hn]
    rw [hv]
    have HV : Hid (0 ≤ valB (r.take 8) ∧ valB (r.take 8) < 18446744073709551616) := Lib.hid (valB_range r 8 (fun x hx => HBY.out x (List.mem_cons_of_mem _ hx)) 18446744073709551616 (Nat.le_refl _))
    skip
    clear hv
    obtain ⟨V, hV⟩ : ∃ V, valB (r.take 8) = V := ⟨_, rfl⟩
    rw [hV] at HV ⊢
    have hv0 : 0 ≤ V := HV.out.1
    have hv1 : V < 18446744073709551616 := HV.out.2
    have hcv : IntKind.u64.wrap V = V := by rw [IntKind.wrap_u64]; omega
    have HW := Lib.hid hV
    clear hV
    go_enter Tryd.func61, Tryd.ntmps61
    go_wp2_with (first
      | (go_at_call 69
         go_must (
           (refine (readType_yes w gb (128 :: r) 0 H.out (by simp) _ rfl).mono ?_)
           rintro e w1 ⟨rfl, h1, h2⟩
           have H1 := Lib.hid h1
           have HB1 := Lib.hid h2
           clear h1 h2))
      | (go_at_call 85
         go_must (
           (refine (ReadUint64_yes w1 gb (128 :: r) 1 H1.out HBY.out (by simp only [List.length_cons]; omega)).mono ?_)
           rintro e w2 ⟨he, h1, h2⟩
           rw [show (((128 :: r)).drop 1).take 8 = r.take 8 from rfl, HW.out] at he
           subst he
           have H2 := Lib.hid h1
           have HB2 := Lib.hid (HB1.out.trans h2)
           clear h1 h2)))
    go_ret2
    exact ⟨rfl, H2.out, HB2.out⟩
  · have hv : numB 8 r = none := by unfold numB; rw [if_neg hn]
    rw [hv]
    go_enter Tryd.func61, Tryd.ntmps61
    go_wp2_with (first
      | (go_at_call 69
         go_must (
           (refine (readType_yes w gb (128 :: r) 0 H.out (by simp) _ rfl).mono ?_)
           rintro e w1 ⟨rfl, h1, h2⟩
           have H1 := Lib.hid h1
           have HB1 := Lib.hid h2
           clear h1 h2))
      | (go_at_call 85
         go_must (
           (have hE1 := EF.out.below HB1.out)
           obtain ⟨-, te1, ve1, hE2⟩ := hE1
           refine (ReadUint64_no w1 gb (128 :: r) 1 H1.out (by simp only [List.length_cons]; omega) te1 ve1 hE2).mono ?_
           rintro e w2 ⟨rfl, h1, h2⟩
           have HB2 := Lib.hid (HB1.out.trans h2)
           clear h1 h2 hE2)))
    go_ret2
    exact ⟨⟨_, _, _, rfl⟩, HB2.out⟩
set_option maxHeartbeats 1000000 in
theorem readUint_other (w : World) (gb : Nat) (c : Int) (r : List Int) (h : RdS w gb (c :: r) 0) (hc : c ≠ 67 ∧ c ≠ 68 ∧ c ≠ 80 ∧ c ≠ 82 ∧ c ≠ 83 ∧ c ≠ 96 ∧ c ≠ 112 ∧ c ≠ 128) :
    Calls Tryd.prog 61 #[.pointer (some ⟨gb, 0, none⟩)] w (RPost (fun v => .int .u64 v) none gb (c :: r) w) := by
  have H := Lib.hid h
  clear h
  have e67 : (c == 67) = false := by rw [beq_eq_false_iff_ne]; exact hc.1
  have e68 : (c == 68) = false := by rw [beq_eq_false_iff_ne]; exact hc.2.1
  have e80 : (c == 80) = false := by rw [beq_eq_false_iff_ne]; exact hc.2.2.1
  have e82 : (c == 82) = false := by rw [beq_eq_false_iff_ne]; exact hc.2.2.2.1
  have e83 : (c == 83) = false := by rw [beq_eq_false_iff_ne]; exact hc.2.2.2.2.1
  have e96 : (c == 96) = false := by rw [beq_eq_false_iff_ne]; exact hc.2.2.2.2.2.1
  have e112 : (c == 112) = false := by rw [beq_eq_false_iff_ne]; exact hc.2.2.2.2.2.2.1
  have e128 : (c == 128) = false := by rw [beq_eq_false_iff_ne]; exact hc.2.2.2.2.2.2.2
  clear hc
  go_enter Tryd.func61, Tryd.ntmps61
  go_wp2_with (first
      | (go_at_call 69
         go_must (
           (refine (readType_yes w gb (c :: r) 0 H.out (by simp) _ rfl).mono ?_)
           rintro e w1 ⟨rfl, h1, h2⟩
           have H1 := Lib.hid h1
           have HB1 := Lib.hid h2
           clear h1 h2))
      | (go_at_call 72
         go_must (
           (refine (New_err w1 _).mono ?_)
           rintro e w2 ⟨⟨te2, ve2, rfl⟩, h2⟩
           have HB2 := Lib.hid (HB1.out.trans (h2.mono (Nat.le_of_lt H1.out.lt)))
           clear h2)))
  go_ret2
  exact ⟨⟨_, _, _, rfl⟩, HB2.out⟩
theorem readUint_calls (w : World) (gb : Nat) (d : List Int) (h : RdS w gb d 0) (hB : IsByt d) (hE : EofS w gb) :
    Calls Tryd.prog 61 #[.pointer (some ⟨gb, 0, none⟩)] w (RPost (fun v => .int .u64 v) (preadUint d) gb d w) := by
  cases d with
  | nil =>
    obtain ⟨_, te, ve, hE⟩ := hE
    exact readUint_nil w gb h te ve hE
  | cons c r =>
    show Calls Tryd.prog 61 #[.pointer (some ⟨gb, 0, none⟩)] w (RPost (fun v => .int .u64 v) (creadUint c r) gb (c :: r) w)
    unfold creadUint
    by_cases h67 : c = 67
    · subst h67
      simp only [if_true]
      exact readUint_67 w gb r h
    rw [if_neg h67]
    by_cases h68 : c = 68
    · subst h68
      simp only [if_true]
      exact readUint_68 w gb r h
    rw [if_neg h68]
    by_cases h80 : c = 80
    · subst h80
      simp only [if_true]
      exact readUint_80 w gb r h hB hE
    rw [if_neg h80]
    by_cases h82 : c = 82
    · subst h82
      simp only [if_true]
      exact readUint_82 w gb r h hB hE
    rw [if_neg h82]
    by_cases h83 : c = 83
    · subst h83
      simp only [if_true]
      exact readUint_83 w gb r h hB hE
    rw [if_neg h83]
    by_cases h96 : c = 96
    · subst h96
      simp only [if_true]
      exact readUint_96 w gb r h hB hE
    rw [if_neg h96]
    by_cases h112 : c = 112
    · subst h112
      simp only [if_true]
      exact readUint_112 w gb r h hB hE
    rw [if_neg h112]
    by_cases h128 : c = 128
    · subst h128
      simp only [if_true]
      exact readUint_128 w gb r h hB hE
    rw [if_neg h128]
    exact readUint_other w gb c r h ⟨h67, h68, h80, h82, h83, h96, h112, h128⟩
end Go.Proofs.YtjjhckbidcdkcaaDoor
