/- AMQP: encoding.ReadString, impl.ReadString. PRINTED by wip/geniy.py. -/
import Derived.Test.YtjjhckbidcdkcaaDoorIu
namespace Go.Proofs.YtjjhckbidcdkcaaDoor
open Go.RowKit
set_option linter.unusedVariables false

/-- A call that reads a text; or an error. -/
def RPostL (mk : List Int → Value) (p : Option (List Int × Nat)) (gb : Nat) (d : List Int) (w : World) (e : Ending) (w' : World) : Prop :=
  match p with
  | some (v, j) => e = .returned (.tuple #[mk v, .nilIface]) ∧ RdS w' gb d j ∧ Below gb w w'
  | none => (∃ x t y, e = .returned (.tuple #[x, .iface t y])) ∧ Below gb w w'
/-- What a reader of impl tells. -/
def IPostL (mk : List Int → Value) (zero : Value) (p : Option (List Int × Nat)) (d : List Int) (w : World) (e : Ending) (w' : World) : Prop :=
  Below w.heap.size w w' ∧ match p with
  | some (v, j) => ∃ A c, e = .returned (.tuple #[mk v, .slice A (d.length - j) c, .bool true]) ∧ Reads w' w'.heap.size 1 A (d.length - j) (bs (d.drop j))
  | none => e = .returned (.tuple #[zero, .slice none 0 0, .bool false])
/-- The text behind a length of n bytes. -/
def txtB (z : Nat) (r : List Int) : Option (List Int × Nat) :=
  if z ≤ r.length then (let k := (valB (r.take z)).toNat; if k ≤ r.length - z then some ((r.drop z).take k, 1 + z + k) else none) else none
def cStr (c : Int) (r : List Int) : Option (List Int × Nat) := if c = 161 then txtB 1 r else if c = 163 then txtB 1 r else if c = 177 then txtB 4 r else if c = 179 then txtB 4 r else none
/-- What ReadString makes of bytes. -/
def pStr : List Int → Option (List Int × Nat)
  | [] => none
  | c :: r => cStr c r
set_option maxHeartbeats 1000000 in
set_option maxRecDepth 100000 in
theorem ReadString_nil (w : World) (gb : Nat) (h : RdS w gb [] 0) (te : TypeId) (ve : Value) (hE : w.cell? ⟨2, 0, none⟩ = some (.iface te ve)) :
    Calls Tryd.prog 45 #[.pointer (some ⟨gb, 0, none⟩)] w (RPostL (fun l => .string (strOfNums l)) none gb [] w) := by
  have H := Lib.hid h
  have HE := Lib.hid hE
  clear h hE
  go_enter Tryd.func45, Tryd.ntmps45
  go_wp2_with (first
      | (go_at_call 69
         go_must (
           (refine (readType_no w gb [] 0 H.out (by simp) te ve HE.out).mono ?_)
           rintro e w1 ⟨rfl, h1, h2⟩
           have HB1 := Lib.hid h2
           clear h1 h2)))
  go_ret2
  exact ⟨⟨_, _, _, rfl⟩, HB1.out⟩
set_option maxHeartbeats 1000000 in
set_option maxRecDepth 100000 in
theorem ReadString_161_e (w : World) (gb : Nat) (h : RdS w gb [161] 0) (hE : EofS w gb) :
    Calls Tryd.prog 45 #[.pointer (some ⟨gb, 0, none⟩)] w (RPostL (fun l => .string (strOfNums l)) none gb [161] w) := by
  have H := Lib.hid h
  have EF := Lib.hid hE
  clear h hE
  go_enter Tryd.func45, Tryd.ntmps45
  go_wp2_with (first
      | (go_at_call 69
         go_must (
           (refine (readType_yes w gb [161] 0 H.out (by simp) _ rfl).mono ?_)
           rintro e w1 ⟨rfl, h1, h2⟩
           have H1 := Lib.hid h1
           have HB1 := Lib.hid h2
           clear h1 h2))
      | (go_at_call 70
         go_must (
           (have hE1 := EF.out.below HB1.out)
           obtain ⟨-, te1, ve1, hE2⟩ := hE1
           refine (ReadByte_no w1 gb [161] 1 H1.out (by simp) te1 ve1 hE2).mono ?_
           rintro e w2 ⟨rfl, h1, h2⟩
           have HB2 := Lib.hid (HB1.out.trans h2)
           clear h1 h2 hE2)))
  go_ret2
  exact ⟨⟨_, _, _, rfl⟩, HB2.out⟩
set_option maxHeartbeats 1000000 in
set_option maxRecDepth 100000 in
theorem ReadString_161_y (w : World) (gb : Nat) (n : Int) (r : List Int) (h : RdS w gb (161 :: n :: r) 0) (hn0 : 0 ≤ n) (hn1 : n ≤ 255) (hl : n.toNat ≤ r.length) :
    Calls Tryd.prog 45 #[.pointer (some ⟨gb, 0, none⟩)] w (RPostL (fun l => .string (strOfNums l)) (some (r.take n.toNat, 2 + n.toNat)) gb (161 :: n :: r) w) := by
  obtain ⟨K, hK0, hK1⟩ : ∃ K : Nat, (K : Int) = n ∧ K ≤ 255 := ⟨n.toNat, by omega, by omega⟩
  have HK0 := Lib.hid hK0
  have HK : Hid (K ≤ 255) := hK1
  have H := Lib.hid h
  have hcw : IntKind.i64.wrap (K : Int) = (K : Int) := by rw [wrapQ]; unfold wrap64; omega
  rw [show n.toNat = K by omega] at hl ⊢
  have HNL := Lib.hid hl
  clear h hn0 hn1 hl hK0 hK1
  go_enter Tryd.func45, Tryd.ntmps45
  go_wp2_with (first
      | (go_at_call 69
         go_must (
           (refine (readType_yes w gb (161 :: n :: r) 0 H.out (by simp) _ rfl).mono ?_)
           rintro e w1 ⟨rfl, h1, h2⟩
           have H1 := Lib.hid h1
           have HB1 := Lib.hid h2
           clear h1 h2))
      | (go_at_call 70
         go_must (
           (refine (ReadByte_yes w1 gb (161 :: n :: r) 1 H1.out (by simp only [List.length_cons]; omega) (K : Int) (by rw [HK0.out]; rfl)).mono ?_)
           rintro e w2 ⟨rfl, h1, h2⟩
           have H2 := Lib.hid h1
           have HB2 := Lib.hid (HB1.out.trans h2)
           clear h1 h2))
      | (go_at_call 71
         go_must (
           (refine (Next_yes w2 gb (161 :: n :: r) 2 K H2.out (by have := HNL.out; simp only [List.length_cons] at *; omega)).mono ?_)
           rintro e w3 ⟨A3, c3, rfl, -, hr3, -, -, h1, h2⟩
           have hcv3 := fun c => conv_reads (c := c) hr3 26 5 9 Tryd.underlying26 Tryd.underlying5 Tryd.underlying9
           rw [show (((161 :: n :: r)).drop 2).take K = r.take K from rfl] at hcv3
           have hcv4 := hcv3 c3
           have H3 := Lib.hid h1
           have HB3 := Lib.hid (HB2.out.trans h2)
           clear h1 h2 hr3 hcv3)))
  go_ret2
  exact ⟨rfl, H3.out, HB3.out⟩
set_option maxHeartbeats 1000000 in
set_option maxRecDepth 100000 in
theorem ReadString_161_n (w : World) (gb : Nat) (n : Int) (r : List Int) (h : RdS w gb (161 :: n :: r) 0) (hn0 : 0 ≤ n) (hn1 : n ≤ 255) (hl : ¬ n.toNat ≤ r.length) :
    Calls Tryd.prog 45 #[.pointer (some ⟨gb, 0, none⟩)] w (RPostL (fun l => .string (strOfNums l)) none gb (161 :: n :: r) w) := by
  obtain ⟨K, hK0, hK1⟩ : ∃ K : Nat, (K : Int) = n ∧ K ≤ 255 := ⟨n.toNat, by omega, by omega⟩
  have HK0 := Lib.hid hK0
  have HK : Hid (K ≤ 255) := hK1
  have H := Lib.hid h
  have hcw : IntKind.i64.wrap (K : Int) = (K : Int) := by rw [wrapQ]; unfold wrap64; omega
  rw [show n.toNat = K by omega] at hl
  have HNL := Lib.hid hl
  clear h hn0 hn1 hl hK0 hK1
  go_enter Tryd.func45, Tryd.ntmps45
  go_wp2_with (first
      | (go_at_call 69
         go_must (
           (refine (readType_yes w gb (161 :: n :: r) 0 H.out (by simp) _ rfl).mono ?_)
           rintro e w1 ⟨rfl, h1, h2⟩
           have H1 := Lib.hid h1
           have HB1 := Lib.hid h2
           clear h1 h2))
      | (go_at_call 70
         go_must (
           (refine (ReadByte_yes w1 gb (161 :: n :: r) 1 H1.out (by simp only [List.length_cons]; omega) (K : Int) (by rw [HK0.out]; rfl)).mono ?_)
           rintro e w2 ⟨rfl, h1, h2⟩
           have H2 := Lib.hid h1
           have HB2 := Lib.hid (HB1.out.trans h2)
           clear h1 h2))
      | (go_at_call 71
         go_must (
           (refine (Next_no w2 gb (161 :: n :: r) 2 (K : Int) H2.out (by omega) (by have := HK.out; omega) (by have := HNL.out; simp only [List.length_cons] at *; omega)).mono ?_)
           rintro e w3 ⟨v3, rfl, h1, h2⟩
           have H3 := Lib.hid h1
           have HB3 := Lib.hid (HB2.out.trans h2)
           clear h1 h2))
      | (go_at_call 72
         go_must (
           (refine (New_err w3 _).mono ?_)
           rintro e w4 ⟨⟨te2, ve2, rfl⟩, h2⟩
           have HB4 := Lib.hid (HB3.out.trans (h2.mono (Nat.le_of_lt H3.out.lt)))
           clear h2)))
  go_ret2
  exact ⟨⟨_, _, _, rfl⟩, HB4.out⟩
set_option maxHeartbeats 1000000 in
set_option maxRecDepth 100000 in
theorem ReadString_163_e (w : World) (gb : Nat) (h : RdS w gb [163] 0) (hE : EofS w gb) :
    Calls Tryd.prog 45 #[.pointer (some ⟨gb, 0, none⟩)] w (RPostL (fun l => .string (strOfNums l)) none gb [163] w) := by
  have H := Lib.hid h
  have EF := Lib.hid hE
  clear h hE
  go_enter Tryd.func45, Tryd.ntmps45
  go_wp2_with (first
      | (go_at_call 69
         go_must (
           (refine (readType_yes w gb [163] 0 H.out (by simp) _ rfl).mono ?_)
           rintro e w1 ⟨rfl, h1, h2⟩
           have H1 := Lib.hid h1
           have HB1 := Lib.hid h2
           clear h1 h2))
      | (go_at_call 70
         go_must (
           (have hE1 := EF.out.below HB1.out)
           obtain ⟨-, te1, ve1, hE2⟩ := hE1
           refine (ReadByte_no w1 gb [163] 1 H1.out (by simp) te1 ve1 hE2).mono ?_
           rintro e w2 ⟨rfl, h1, h2⟩
           have HB2 := Lib.hid (HB1.out.trans h2)
           clear h1 h2 hE2)))
  go_ret2
  exact ⟨⟨_, _, _, rfl⟩, HB2.out⟩
set_option maxHeartbeats 1000000 in
set_option maxRecDepth 100000 in
theorem ReadString_163_y (w : World) (gb : Nat) (n : Int) (r : List Int) (h : RdS w gb (163 :: n :: r) 0) (hn0 : 0 ≤ n) (hn1 : n ≤ 255) (hl : n.toNat ≤ r.length) :
    Calls Tryd.prog 45 #[.pointer (some ⟨gb, 0, none⟩)] w (RPostL (fun l => .string (strOfNums l)) (some (r.take n.toNat, 2 + n.toNat)) gb (163 :: n :: r) w) := by
  obtain ⟨K, hK0, hK1⟩ : ∃ K : Nat, (K : Int) = n ∧ K ≤ 255 := ⟨n.toNat, by omega, by omega⟩
  have HK0 := Lib.hid hK0
  have HK : Hid (K ≤ 255) := hK1
  have H := Lib.hid h
  have hcw : IntKind.i64.wrap (K : Int) = (K : Int) := by rw [wrapQ]; unfold wrap64; omega
  rw [show n.toNat = K by omega] at hl ⊢
  have HNL := Lib.hid hl
  clear h hn0 hn1 hl hK0 hK1
  go_enter Tryd.func45, Tryd.ntmps45
  go_wp2_with (first
      | (go_at_call 69
         go_must (
           (refine (readType_yes w gb (163 :: n :: r) 0 H.out (by simp) _ rfl).mono ?_)
           rintro e w1 ⟨rfl, h1, h2⟩
           have H1 := Lib.hid h1
           have HB1 := Lib.hid h2
           clear h1 h2))
      | (go_at_call 70
         go_must (
           (refine (ReadByte_yes w1 gb (163 :: n :: r) 1 H1.out (by simp only [List.length_cons]; omega) (K : Int) (by rw [HK0.out]; rfl)).mono ?_)
           rintro e w2 ⟨rfl, h1, h2⟩
           have H2 := Lib.hid h1
           have HB2 := Lib.hid (HB1.out.trans h2)
           clear h1 h2))
      | (go_at_call 71
         go_must (
           (refine (Next_yes w2 gb (163 :: n :: r) 2 K H2.out (by have := HNL.out; simp only [List.length_cons] at *; omega)).mono ?_)
           rintro e w3 ⟨A3, c3, rfl, -, hr3, -, -, h1, h2⟩
           have hcv3 := fun c => conv_reads (c := c) hr3 26 5 9 Tryd.underlying26 Tryd.underlying5 Tryd.underlying9
           rw [show (((163 :: n :: r)).drop 2).take K = r.take K from rfl] at hcv3
           have hcv4 := hcv3 c3
           have H3 := Lib.hid h1
           have HB3 := Lib.hid (HB2.out.trans h2)
           clear h1 h2 hr3 hcv3)))
  go_ret2
  exact ⟨rfl, H3.out, HB3.out⟩
set_option maxHeartbeats 1000000 in
set_option maxRecDepth 100000 in
theorem ReadString_163_n (w : World) (gb : Nat) (n : Int) (r : List Int) (h : RdS w gb (163 :: n :: r) 0) (hn0 : 0 ≤ n) (hn1 : n ≤ 255) (hl : ¬ n.toNat ≤ r.length) :
    Calls Tryd.prog 45 #[.pointer (some ⟨gb, 0, none⟩)] w (RPostL (fun l => .string (strOfNums l)) none gb (163 :: n :: r) w) := by
  obtain ⟨K, hK0, hK1⟩ : ∃ K : Nat, (K : Int) = n ∧ K ≤ 255 := ⟨n.toNat, by omega, by omega⟩
  have HK0 := Lib.hid hK0
  have HK : Hid (K ≤ 255) := hK1
  have H := Lib.hid h
  have hcw : IntKind.i64.wrap (K : Int) = (K : Int) := by rw [wrapQ]; unfold wrap64; omega
  rw [show n.toNat = K by omega] at hl
  have HNL := Lib.hid hl
  clear h hn0 hn1 hl hK0 hK1
  go_enter Tryd.func45, Tryd.ntmps45
  go_wp2_with (first
      | (go_at_call 69
         go_must (
           (refine (readType_yes w gb (163 :: n :: r) 0 H.out (by simp) _ rfl).mono ?_)
           rintro e w1 ⟨rfl, h1, h2⟩
           have H1 := Lib.hid h1
           have HB1 := Lib.hid h2
           clear h1 h2))
      | (go_at_call 70
         go_must (
           (refine (ReadByte_yes w1 gb (163 :: n :: r) 1 H1.out (by simp only [List.length_cons]; omega) (K : Int) (by rw [HK0.out]; rfl)).mono ?_)
           rintro e w2 ⟨rfl, h1, h2⟩
           have H2 := Lib.hid h1
           have HB2 := Lib.hid (HB1.out.trans h2)
           clear h1 h2))
      | (go_at_call 71
         go_must (
           (refine (Next_no w2 gb (163 :: n :: r) 2 (K : Int) H2.out (by omega) (by have := HK.out; omega) (by have := HNL.out; simp only [List.length_cons] at *; omega)).mono ?_)
           rintro e w3 ⟨v3, rfl, h1, h2⟩
           have H3 := Lib.hid h1
           have HB3 := Lib.hid (HB2.out.trans h2)
           clear h1 h2))
      | (go_at_call 72
         go_must (
           (refine (New_err w3 _).mono ?_)
           rintro e w4 ⟨⟨te2, ve2, rfl⟩, h2⟩
           have HB4 := Lib.hid (HB3.out.trans (h2.mono (Nat.le_of_lt H3.out.lt)))
           clear h2)))
  go_ret2
  exact ⟨⟨_, _, _, rfl⟩, HB4.out⟩
set_option maxHeartbeats 1000000 in
set_option maxRecDepth 100000 in
theorem ReadString_177_e (w : World) (gb : Nat) (r : List Int) (h : RdS w gb (177 :: r) 0) (hl : ¬ 4 ≤ r.length) :
    Calls Tryd.prog 45 #[.pointer (some ⟨gb, 0, none⟩)] w (RPostL (fun l => .string (strOfNums l)) none gb (177 :: r) w) := by
  have H := Lib.hid h
  clear h
  go_enter Tryd.func45, Tryd.ntmps45
  go_wp2_with (first
      | (go_at_call 69
         go_must (
           (refine (readType_yes w gb (177 :: r) 0 H.out (by simp) _ rfl).mono ?_)
           rintro e w1 ⟨rfl, h1, h2⟩
           have H1 := Lib.hid h1
           have HB1 := Lib.hid h2
           clear h1 h2))
      | (go_at_call 71
         go_must (
           (refine (Next_no w1 gb (177 :: r) 1 4 H1.out (by omega) (by omega) (by simp only [List.length_cons]; omega)).mono ?_)
           rintro e w2 ⟨v3, rfl, h1, h2⟩
           have H2 := Lib.hid h1
           have HB2 := Lib.hid (HB1.out.trans h2)
           clear h1 h2))
      | (go_at_call 72
         go_must (
           (refine (New_err w2 _).mono ?_)
           rintro e w3 ⟨⟨te2, ve2, rfl⟩, h2⟩
           have HB3 := Lib.hid (HB2.out.trans (h2.mono (Nat.le_of_lt H2.out.lt)))
           clear h2)))
  go_ret2
  exact ⟨⟨_, _, _, rfl⟩, HB3.out⟩
set_option maxHeartbeats 1000000 in
set_option maxRecDepth 100000 in
theorem ReadString_177_y (w : World) (gb : Nat) (b0 b1 b2 b3 : Int) (r : List Int) (h : RdS w gb (177 :: b0 :: b1 :: b2 :: b3 :: r) 0) (hb : (0 ≤ b0 ∧ 0 ≤ b1 ∧ 0 ≤ b2 ∧ 0 ≤ b3 ∧ b0 ≤ 255 ∧ b1 ≤ 255 ∧ b2 ≤ 255 ∧ b3 ≤ 255)) (hl : (b0 * 16777216 + (b1 * 65536 + (b2 * 256 + b3))).toNat ≤ r.length) :
    Calls Tryd.prog 45 #[.pointer (some ⟨gb, 0, none⟩)] w (RPostL (fun l => .string (strOfNums l)) (some (r.take (b0 * 16777216 + (b1 * 65536 + (b2 * 256 + b3))).toNat, 5 + (b0 * 16777216 + (b1 * 65536 + (b2 * 256 + b3))).toNat)) gb (177 :: b0 :: b1 :: b2 :: b3 :: r) w) := by
  obtain ⟨K, hK0, hK1⟩ : ∃ K : Nat, (K : Int) = b0 * 16777216 + (b1 * 65536 + (b2 * 256 + b3)) ∧ K < 4294967296 := ⟨(b0 * 16777216 + (b1 * 65536 + (b2 * 256 + b3))).toNat, by omega, by omega⟩
  have HK0 := Lib.hid hK0
  have HK : Hid (K < 4294967296) := hK1
  have HBB := Lib.hid hb
  have H := Lib.hid h
  have hcw : IntKind.i64.wrap (K : Int) = (K : Int) := by rw [wrapQ]; unfold wrap64; omega
  have hld : ∀ w, (loadVar 128 ⟨0, 0, none⟩).run Tryd.prog w = .ok (.agg #[]) w := fun w => by kernel_rfl
  rw [show (b0 * 16777216 + (b1 * 65536 + (b2 * 256 + b3))).toNat = K by omega] at hl ⊢
  have HNL := Lib.hid hl
  clear h hl hK0 hK1 hb
  go_enter Tryd.func45, Tryd.ntmps45
  go_wp2_with (first
      | (go_at_call 69
         go_must (
           (refine (readType_yes w gb (177 :: b0 :: b1 :: b2 :: b3 :: r) 0 H.out (by simp) _ rfl).mono ?_)
           rintro e w1 ⟨rfl, h1, h2⟩
           have H1 := Lib.hid h1
           have HB1 := Lib.hid h2
           clear h1 h2))
      | (go_at_call 71
         first
         | (have HLATE := HU
            clear HLATE
            go_must (
             (refine (Next_yes w2 gb (177 :: b0 :: b1 :: b2 :: b3 :: r) 5 K H2.out (by have := HNL.out; simp only [List.length_cons] at *; omega)).mono ?_)
             rintro e w3 ⟨A3, c3, rfl, -, hr3, -, -, h1, h2⟩
             have hcv3 := fun c => conv_reads (c := c) hr3 26 5 9 Tryd.underlying26 Tryd.underlying5 Tryd.underlying9
             rw [show (((177 :: b0 :: b1 :: b2 :: b3 :: r)).drop 5).take K = r.take K from rfl] at hcv3
             have hcv4 := hcv3 c3
             have H3 := Lib.hid h1
             have HB3 := Lib.hid (HB2.out.trans h2)
             clear h1 h2 hr3 hcv3))
         | go_must (
           (refine (Next_yes w1 gb (177 :: b0 :: b1 :: b2 :: b3 :: r) 1 4 H1.out (by simp only [List.length_cons]; omega)).mono ?_)
           rintro e wn ⟨An, cn, rfl, hAn, hrn, hcn, hcm, h1, h2⟩
           obtain ⟨gn, rfl⟩ := hAn (by omega)
           have HRN := Lib.hid hrn
           have HN := Lib.hid h1
           have HBN := Lib.hid (HB1.out.trans h2)
           clear h1 h2 hrn hcn hcm hAn))
      | (go_at_call 73
         go_must (
           (have hce : ∀ j x, (bs [b0, b1, b2, b3])[j]? = some x → wn.cell? ⟨gn, 1 + j, none⟩ = some x := fun j x hx => by
             obtain ⟨ad, had, _, hc⟩ := HRN.out.2 (by omega)
             injection had with had
             subst had
             have := hc j x hx
             rwa [add_lit] at this)
           have hgn : gn < wn.heap.size := by
             obtain ⟨ad, had, hlt, _⟩ := HRN.out.2 (by omega)
             injection had with had
             subst had
             exact Nat.lt_trans hlt HN.out.lt
           obtain ⟨l0, l1, l2, l3, m0, m1, m2, m3⟩ := HBB.out
           refine (uint32_calls wn gn cn 1 b0 b1 b2 b3 l0 m0 l1 m1 l2 m2 l3 m3 hgn 4 (by omega) (hce 0 _ rfl) (hce 1 _ rfl) (hce 2 _ rfl) (hce 3 _ rfl)).mono ?_
           rintro e w2 ⟨he, hb2⟩
           rw [← HK0.out] at he
           subst he
           have H2 := Lib.hid (HN.out.below hb2)
           have HB2 := Lib.hid (HBN.out.trans (hb2.mono (Nat.le_of_lt HN.out.lt)))
           have HU := Lib.hid hb2
           clear hb2 hce hgn)))
  go_ret2
  exact ⟨rfl, H3.out, HB3.out⟩
set_option maxHeartbeats 1000000 in
set_option maxRecDepth 100000 in
theorem ReadString_177_n (w : World) (gb : Nat) (b0 b1 b2 b3 : Int) (r : List Int) (h : RdS w gb (177 :: b0 :: b1 :: b2 :: b3 :: r) 0) (hb : (0 ≤ b0 ∧ 0 ≤ b1 ∧ 0 ≤ b2 ∧ 0 ≤ b3 ∧ b0 ≤ 255 ∧ b1 ≤ 255 ∧ b2 ≤ 255 ∧ b3 ≤ 255)) (hl : ¬ (b0 * 16777216 + (b1 * 65536 + (b2 * 256 + b3))).toNat ≤ r.length) :
    Calls Tryd.prog 45 #[.pointer (some ⟨gb, 0, none⟩)] w (RPostL (fun l => .string (strOfNums l)) none gb (177 :: b0 :: b1 :: b2 :: b3 :: r) w) := by
  obtain ⟨K, hK0, hK1⟩ : ∃ K : Nat, (K : Int) = b0 * 16777216 + (b1 * 65536 + (b2 * 256 + b3)) ∧ K < 4294967296 := ⟨(b0 * 16777216 + (b1 * 65536 + (b2 * 256 + b3))).toNat, by omega, by omega⟩
  have HK0 := Lib.hid hK0
  have HK : Hid (K < 4294967296) := hK1
  have HBB := Lib.hid hb
  have H := Lib.hid h
  have hcw : IntKind.i64.wrap (K : Int) = (K : Int) := by rw [wrapQ]; unfold wrap64; omega
  have hld : ∀ w, (loadVar 128 ⟨0, 0, none⟩).run Tryd.prog w = .ok (.agg #[]) w := fun w => by kernel_rfl
  rw [show (b0 * 16777216 + (b1 * 65536 + (b2 * 256 + b3))).toNat = K by omega] at hl
  have HNL := Lib.hid hl
  clear h hl hK0 hK1 hb
  go_enter Tryd.func45, Tryd.ntmps45
  go_wp2_with (first
      | (go_at_call 69
         go_must (
           (refine (readType_yes w gb (177 :: b0 :: b1 :: b2 :: b3 :: r) 0 H.out (by simp) _ rfl).mono ?_)
           rintro e w1 ⟨rfl, h1, h2⟩
           have H1 := Lib.hid h1
           have HB1 := Lib.hid h2
           clear h1 h2))
      | (go_at_call 71
         first
         | (have HLATE := HU
            clear HLATE
            go_must (
             (refine (Next_no w2 gb (177 :: b0 :: b1 :: b2 :: b3 :: r) 5 (K : Int) H2.out (by omega) (by have := HK.out; omega) (by have := HNL.out; simp only [List.length_cons] at *; omega)).mono ?_)
             rintro e w3 ⟨v3, rfl, h1, h2⟩
             have H3 := Lib.hid h1
             have HB3 := Lib.hid (HB2.out.trans h2)
             clear h1 h2))
         | go_must (
           (refine (Next_yes w1 gb (177 :: b0 :: b1 :: b2 :: b3 :: r) 1 4 H1.out (by simp only [List.length_cons]; omega)).mono ?_)
           rintro e wn ⟨An, cn, rfl, hAn, hrn, hcn, hcm, h1, h2⟩
           obtain ⟨gn, rfl⟩ := hAn (by omega)
           have HRN := Lib.hid hrn
           have HN := Lib.hid h1
           have HBN := Lib.hid (HB1.out.trans h2)
           clear h1 h2 hrn hcn hcm hAn))
      | (go_at_call 73
         go_must (
           (have hce : ∀ j x, (bs [b0, b1, b2, b3])[j]? = some x → wn.cell? ⟨gn, 1 + j, none⟩ = some x := fun j x hx => by
             obtain ⟨ad, had, _, hc⟩ := HRN.out.2 (by omega)
             injection had with had
             subst had
             have := hc j x hx
             rwa [add_lit] at this)
           have hgn : gn < wn.heap.size := by
             obtain ⟨ad, had, hlt, _⟩ := HRN.out.2 (by omega)
             injection had with had
             subst had
             exact Nat.lt_trans hlt HN.out.lt
           obtain ⟨l0, l1, l2, l3, m0, m1, m2, m3⟩ := HBB.out
           refine (uint32_calls wn gn cn 1 b0 b1 b2 b3 l0 m0 l1 m1 l2 m2 l3 m3 hgn 4 (by omega) (hce 0 _ rfl) (hce 1 _ rfl) (hce 2 _ rfl) (hce 3 _ rfl)).mono ?_
           rintro e w2 ⟨he, hb2⟩
           rw [← HK0.out] at he
           subst he
           have H2 := Lib.hid (HN.out.below hb2)
           have HB2 := Lib.hid (HBN.out.trans (hb2.mono (Nat.le_of_lt HN.out.lt)))
           have HU := Lib.hid hb2
           clear hb2 hce hgn))
      | (go_at_call 72
         go_must (
           (refine (New_err w3 _).mono ?_)
           rintro e w4 ⟨⟨te2, ve2, rfl⟩, h2⟩
           have HB4 := Lib.hid (HB3.out.trans (h2.mono (Nat.le_of_lt H3.out.lt)))
           clear h2)))
  go_ret2
  exact ⟨⟨_, _, _, rfl⟩, HB4.out⟩
set_option maxHeartbeats 1000000 in
set_option maxRecDepth 100000 in
theorem ReadString_179_e (w : World) (gb : Nat) (r : List Int) (h : RdS w gb (179 :: r) 0) (hl : ¬ 4 ≤ r.length) :
    Calls Tryd.prog 45 #[.pointer (some ⟨gb, 0, none⟩)] w (RPostL (fun l => .string (strOfNums l)) none gb (179 :: r) w) := by
  have H := Lib.hid h
  clear h
  go_enter Tryd.func45, Tryd.ntmps45
  go_wp2_with (first
      | (go_at_call 69
         go_must (
           (refine (readType_yes w gb (179 :: r) 0 H.out (by simp) _ rfl).mono ?_)
           rintro e w1 ⟨rfl, h1, h2⟩
           have H1 := Lib.hid h1
           have HB1 := Lib.hid h2
           clear h1 h2))
      | (go_at_call 71
         go_must (
           (refine (Next_no w1 gb (179 :: r) 1 4 H1.out (by omega) (by omega) (by simp only [List.length_cons]; omega)).mono ?_)
           rintro e w2 ⟨v3, rfl, h1, h2⟩
           have H2 := Lib.hid h1
           have HB2 := Lib.hid (HB1.out.trans h2)
           clear h1 h2))
      | (go_at_call 72
         go_must (
           (refine (New_err w2 _).mono ?_)
           rintro e w3 ⟨⟨te2, ve2, rfl⟩, h2⟩
           have HB3 := Lib.hid (HB2.out.trans (h2.mono (Nat.le_of_lt H2.out.lt)))
           clear h2)))
  go_ret2
  exact ⟨⟨_, _, _, rfl⟩, HB3.out⟩
set_option maxHeartbeats 1000000 in
set_option maxRecDepth 100000 in
theorem ReadString_179_y (w : World) (gb : Nat) (b0 b1 b2 b3 : Int) (r : List Int) (h : RdS w gb (179 :: b0 :: b1 :: b2 :: b3 :: r) 0) (hb : (0 ≤ b0 ∧ 0 ≤ b1 ∧ 0 ≤ b2 ∧ 0 ≤ b3 ∧ b0 ≤ 255 ∧ b1 ≤ 255 ∧ b2 ≤ 255 ∧ b3 ≤ 255)) (hl : (b0 * 16777216 + (b1 * 65536 + (b2 * 256 + b3))).toNat ≤ r.length) :
    Calls Tryd.prog 45 #[.pointer (some ⟨gb, 0, none⟩)] w (RPostL (fun l => .string (strOfNums l)) (some (r.take (b0 * 16777216 + (b1 * 65536 + (b2 * 256 + b3))).toNat, 5 + (b0 * 16777216 + (b1 * 65536 + (b2 * 256 + b3))).toNat)) gb (179 :: b0 :: b1 :: b2 :: b3 :: r) w) := by
  obtain ⟨K, hK0, hK1⟩ : ∃ K : Nat, (K : Int) = b0 * 16777216 + (b1 * 65536 + (b2 * 256 + b3)) ∧ K < 4294967296 := ⟨(b0 * 16777216 + (b1 * 65536 + (b2 * 256 + b3))).toNat, by omega, by omega⟩
  have HK0 := Lib.hid hK0
  have HK : Hid (K < 4294967296) := hK1
  have HBB := Lib.hid hb
  have H := Lib.hid h
  have hcw : IntKind.i64.wrap (K : Int) = (K : Int) := by rw [wrapQ]; unfold wrap64; omega
  have hld : ∀ w, (loadVar 128 ⟨0, 0, none⟩).run Tryd.prog w = .ok (.agg #[]) w := fun w => by kernel_rfl
  rw [show (b0 * 16777216 + (b1 * 65536 + (b2 * 256 + b3))).toNat = K by omega] at hl ⊢
  have HNL := Lib.hid hl
  clear h hl hK0 hK1 hb
  go_enter Tryd.func45, Tryd.ntmps45
  go_wp2_with (first
      | (go_at_call 69
         go_must (
           (refine (readType_yes w gb (179 :: b0 :: b1 :: b2 :: b3 :: r) 0 H.out (by simp) _ rfl).mono ?_)
           rintro e w1 ⟨rfl, h1, h2⟩
           have H1 := Lib.hid h1
           have HB1 := Lib.hid h2
           clear h1 h2))
      | (go_at_call 71
         first
         | (have HLATE := HU
            clear HLATE
            go_must (
             (refine (Next_yes w2 gb (179 :: b0 :: b1 :: b2 :: b3 :: r) 5 K H2.out (by have := HNL.out; simp only [List.length_cons] at *; omega)).mono ?_)
             rintro e w3 ⟨A3, c3, rfl, -, hr3, -, -, h1, h2⟩
             have hcv3 := fun c => conv_reads (c := c) hr3 26 5 9 Tryd.underlying26 Tryd.underlying5 Tryd.underlying9
             rw [show (((179 :: b0 :: b1 :: b2 :: b3 :: r)).drop 5).take K = r.take K from rfl] at hcv3
             have hcv4 := hcv3 c3
             have H3 := Lib.hid h1
             have HB3 := Lib.hid (HB2.out.trans h2)
             clear h1 h2 hr3 hcv3))
         | go_must (
           (refine (Next_yes w1 gb (179 :: b0 :: b1 :: b2 :: b3 :: r) 1 4 H1.out (by simp only [List.length_cons]; omega)).mono ?_)
           rintro e wn ⟨An, cn, rfl, hAn, hrn, hcn, hcm, h1, h2⟩
           obtain ⟨gn, rfl⟩ := hAn (by omega)
           have HRN := Lib.hid hrn
           have HN := Lib.hid h1
           have HBN := Lib.hid (HB1.out.trans h2)
           clear h1 h2 hrn hcn hcm hAn))
      | (go_at_call 73
         go_must (
           (have hce : ∀ j x, (bs [b0, b1, b2, b3])[j]? = some x → wn.cell? ⟨gn, 1 + j, none⟩ = some x := fun j x hx => by
             obtain ⟨ad, had, _, hc⟩ := HRN.out.2 (by omega)
             injection had with had
             subst had
             have := hc j x hx
             rwa [add_lit] at this)
           have hgn : gn < wn.heap.size := by
             obtain ⟨ad, had, hlt, _⟩ := HRN.out.2 (by omega)
             injection had with had
             subst had
             exact Nat.lt_trans hlt HN.out.lt
           obtain ⟨l0, l1, l2, l3, m0, m1, m2, m3⟩ := HBB.out
           refine (uint32_calls wn gn cn 1 b0 b1 b2 b3 l0 m0 l1 m1 l2 m2 l3 m3 hgn 4 (by omega) (hce 0 _ rfl) (hce 1 _ rfl) (hce 2 _ rfl) (hce 3 _ rfl)).mono ?_
           rintro e w2 ⟨he, hb2⟩
           rw [← HK0.out] at he
           subst he
           have H2 := Lib.hid (HN.out.below hb2)
           have HB2 := Lib.hid (HBN.out.trans (hb2.mono (Nat.le_of_lt HN.out.lt)))
           have HU := Lib.hid hb2
           clear hb2 hce hgn)))
  go_ret2
  exact ⟨rfl, H3.out, HB3.out⟩
set_option maxHeartbeats 1000000 in
set_option maxRecDepth 100000 in
theorem ReadString_179_n (w : World) (gb : Nat) (b0 b1 b2 b3 : Int) (r : List Int) (h : RdS w gb (179 :: b0 :: b1 :: b2 :: b3 :: r) 0) (hb : (0 ≤ b0 ∧ 0 ≤ b1 ∧ 0 ≤ b2 ∧ 0 ≤ b3 ∧ b0 ≤ 255 ∧ b1 ≤ 255 ∧ b2 ≤ 255 ∧ b3 ≤ 255)) (hl : ¬ (b0 * 16777216 + (b1 * 65536 + (b2 * 256 + b3))).toNat ≤ r.length) :
    Calls Tryd.prog 45 #[.pointer (some ⟨gb, 0, none⟩)] w (RPostL (fun l => .string (strOfNums l)) none gb (179 :: b0 :: b1 :: b2 :: b3 :: r) w) := by
  obtain ⟨K, hK0, hK1⟩ : ∃ K : Nat, (K : Int) = b0 * 16777216 + (b1 * 65536 + (b2 * 256 + b3)) ∧ K < 4294967296 := ⟨(b0 * 16777216 + (b1 * 65536 + (b2 * 256 + b3))).toNat, by omega, by omega⟩
  have HK0 := Lib.hid hK0
  have HK : Hid (K < 4294967296) := hK1
  have HBB := Lib.hid hb
  have H := Lib.hid h
  have hcw : IntKind.i64.wrap (K : Int) = (K : Int) := by rw [wrapQ]; unfold wrap64; omega
  have hld : ∀ w, (loadVar 128 ⟨0, 0, none⟩).run Tryd.prog w = .ok (.agg #[]) w := fun w => by kernel_rfl
  rw [show (b0 * 16777216 + (b1 * 65536 + (b2 * 256 + b3))).toNat = K by omega] at hl
  have HNL := Lib.hid hl
  clear h hl hK0 hK1 hb
  go_enter Tryd.func45, Tryd.ntmps45
  go_wp2_with (first
      | (go_at_call 69
         go_must (
           (refine (readType_yes w gb (179 :: b0 :: b1 :: b2 :: b3 :: r) 0 H.out (by simp) _ rfl).mono ?_)
           rintro e w1 ⟨rfl, h1, h2⟩
           have H1 := Lib.hid h1
           have HB1 := Lib.hid h2
           clear h1 h2))
      | (go_at_call 71
         first
         | (have HLATE := HU
            clear HLATE
            go_must (
             (refine (Next_no w2 gb (179 :: b0 :: b1 :: b2 :: b3 :: r) 5 (K : Int) H2.out (by omega) (by have := HK.out; omega) (by have := HNL.out; simp only [List.length_cons] at *; omega)).mono ?_)
             rintro e w3 ⟨v3, rfl, h1, h2⟩
             have H3 := Lib.hid h1
             have HB3 := Lib.hid (HB2.out.trans h2)
             clear h1 h2))
         | go_must (
           (refine (Next_yes w1 gb (179 :: b0 :: b1 :: b2 :: b3 :: r) 1 4 H1.out (by simp only [List.length_cons]; omega)).mono ?_)
           rintro e wn ⟨An, cn, rfl, hAn, hrn, hcn, hcm, h1, h2⟩
           obtain ⟨gn, rfl⟩ := hAn (by omega)
           have HRN := Lib.hid hrn
           have HN := Lib.hid h1
           have HBN := Lib.hid (HB1.out.trans h2)
           clear h1 h2 hrn hcn hcm hAn))
      | (go_at_call 73
         go_must (
           (have hce : ∀ j x, (bs [b0, b1, b2, b3])[j]? = some x → wn.cell? ⟨gn, 1 + j, none⟩ = some x := fun j x hx => by
             obtain ⟨ad, had, _, hc⟩ := HRN.out.2 (by omega)
             injection had with had
             subst had
             have := hc j x hx
             rwa [add_lit] at this)
           have hgn : gn < wn.heap.size := by
             obtain ⟨ad, had, hlt, _⟩ := HRN.out.2 (by omega)
             injection had with had
             subst had
             exact Nat.lt_trans hlt HN.out.lt
           obtain ⟨l0, l1, l2, l3, m0, m1, m2, m3⟩ := HBB.out
           refine (uint32_calls wn gn cn 1 b0 b1 b2 b3 l0 m0 l1 m1 l2 m2 l3 m3 hgn 4 (by omega) (hce 0 _ rfl) (hce 1 _ rfl) (hce 2 _ rfl) (hce 3 _ rfl)).mono ?_
           rintro e w2 ⟨he, hb2⟩
           rw [← HK0.out] at he
           subst he
           have H2 := Lib.hid (HN.out.below hb2)
           have HB2 := Lib.hid (HBN.out.trans (hb2.mono (Nat.le_of_lt HN.out.lt)))
           have HU := Lib.hid hb2
           clear hb2 hce hgn))
      | (go_at_call 72
         go_must (
           (refine (New_err w3 _).mono ?_)
           rintro e w4 ⟨⟨te2, ve2, rfl⟩, h2⟩
           have HB4 := Lib.hid (HB3.out.trans (h2.mono (Nat.le_of_lt H3.out.lt)))
           clear h2)))
  go_ret2
  exact ⟨⟨_, _, _, rfl⟩, HB4.out⟩
set_option maxHeartbeats 1000000 in
set_option maxRecDepth 100000 in
theorem ReadString_other (w : World) (gb : Nat) (c : Int) (r : List Int) (h : RdS w gb (c :: r) 0) (hc : c ≠ 161 ∧ c ≠ 163 ∧ c ≠ 177 ∧ c ≠ 179) :
    Calls Tryd.prog 45 #[.pointer (some ⟨gb, 0, none⟩)] w (RPostL (fun l => .string (strOfNums l)) none gb (c :: r) w) := by
  have H := Lib.hid h
  clear h
  have e161 : (c == 161) = false := by rw [beq_eq_false_iff_ne]; exact hc.1
  have e163 : (c == 163) = false := by rw [beq_eq_false_iff_ne]; exact hc.2.1
  have e177 : (c == 177) = false := by rw [beq_eq_false_iff_ne]; exact hc.2.2.1
  have e179 : (c == 179) = false := by rw [beq_eq_false_iff_ne]; exact hc.2.2.2
  clear hc
  go_enter Tryd.func45, Tryd.ntmps45
  go_wp2_with (first
      | (go_at_call 69
         go_must (
           (refine (readType_yes w gb (c :: r) 0 H.out (by simp) _ rfl).mono ?_)
           rintro e w1 ⟨rfl, h1, h2⟩
           have H1 := Lib.hid h1
           have HB1 := Lib.hid h2
           clear h1 h2))
      | (go_at_call 72
         go_must (
           (refine (New_err w1 _).mono ?_)
           rintro e w2 ⟨⟨te2, ve2, rfl⟩, h2⟩
           have HB2 := Lib.hid (HB1.out.trans (h2.mono (Nat.le_of_lt H1.out.lt)))
           clear h2)))
  go_ret2
  exact ⟨⟨_, _, _, rfl⟩, HB2.out⟩
end Go.Proofs.YtjjhckbidcdkcaaDoor
