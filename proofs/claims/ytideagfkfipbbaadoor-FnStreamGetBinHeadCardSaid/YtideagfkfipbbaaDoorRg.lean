/- binary.BigEndian at a slice that reads; Reader.ReadBytesHeader. PRINTED by wip/genrg.py. -/
import Derived.Test.YtideagfkfipbbaaDoorRe
import Derived.Test.YtideagfkfipbbaaDoorPd
import Derived.Deep.RegionHeld3
import Derived.Laws.BitsAllLaws
namespace Go.Proofs.YtideagfkfipbbaaDoor
open Go.RowKit
set_option linter.unusedVariables false

theorem add_zeroR (a : Addr) : a.add 0 = a := by simp [Addr.add]
theorem nat_joinR (i a b : Nat) (hb : b % 2 ^ i = 0) (ha : a < 2 ^ i) : a ||| b = a + b := by
  obtain ⟨k, rfl⟩ : ∃ k, b = 2 ^ i * k := ⟨b / 2 ^ i, by have := Nat.div_add_mod b (2 ^ i); rw [hb] at this; omega⟩
  rw [Nat.or_comm, ← Nat.two_pow_add_eq_or_of_lt ha]
  omega
theorem join16R (a b : Int) (ha : 0 ≤ a) (ha1 : a ≤ 255) (hb : 0 ≤ b) (hb1 : b ≤ 255) : bits .or .u16 b (a * 256) = a * 256 + b := by
  rw [u16_or _ _ hb (by omega) (by omega) (by omega), nat_joinR 8 _ _ (by omega) (by omega)]
  omega
theorem joinR32 (i : Nat) (u x : Int) (hu : 0 ≤ u) (hu1 : u < 2 ^ i) (hx : 0 ≤ x) (hx1 : x < 4294967296) (hxm : x.toNat % 2 ^ i = 0) (hi : i ≤ 31) : bits .or .u32 u x = x + u := by
  have hp : (2 : Int) ^ i ≤ 2147483648 := by
    have : (2 : Int) ^ i ≤ 2 ^ 31 := by exact_mod_cast Nat.pow_le_pow_right (by omega) hi
    simpa using this
  have hun : u.toNat < 2 ^ i := by
    have h2 : ((2 ^ i : Nat) : Int) = (2 : Int) ^ i := by norm_cast
    omega
  rw [u32_or _ _ hu (by omega) hx hx1, nat_joinR i _ _ hxm hun]
  omega

set_option maxHeartbeats 2000000 in
set_option maxRecDepth 100000 in
theorem uint16_at (w : World) (B c : Nat) (ad : Addr) (a b : Int) (h : Reads w B 1 (some ad) 2 (bs [a, b])) (ha : 0 ≤ a ∧ a ≤ 255) (hb : 0 ≤ b ∧ b ≤ 255) :
    Calls Tryd.prog 30 #[.agg #[], .slice (some ad) 2 c] w fun r w' => r = .returned (.int .u16 (a * 256 + b)) ∧ Below w.heap.size w w' := by
  obtain ⟨ad', hA, hlt, hc⟩ := h.2 (by omega)
  injection hA with hA
  subst hA
  have hlw : ad.block < w.heap.size := World.block_lt_of_cell? w _ (by have := hc 0 _ rfl; rw [add_zeroR] at this; exact this)
  have q0 := hc 0 _ rfl
  have q1 : w.cell? ⟨ad.block, ad.off + 1, none⟩ = some _ := hc 1 _ rfl
  have q0' := q0
  rw [add_zeroR] at q0'
  have z1 : bits .or .u16 b (a * 256) = a * 256 + b := join16R a b ha.1 ha.2 hb.1 hb.2
  clear hc h hlt
  go_enter Tryd.func30, Tryd.ntmps30
  go_wp2
  go_quiet (fail)
  go_wp2
  go_ret
  exact ⟨rfl, below_drewN ((Below.refl _ w).alloc (Nat.le_refl _) _) nq⟩

set_option maxHeartbeats 2000000 in
set_option maxRecDepth 100000 in
theorem uint32_at (w : World) (B c : Nat) (ad : Addr) (a b d f : Int) (h : Reads w B 1 (some ad) 4 (bs [a, b, d, f])) (ha : 0 ≤ a ∧ a ≤ 255) (hb : 0 ≤ b ∧ b ≤ 255) (hd : 0 ≤ d ∧ d ≤ 255) (hf : 0 ≤ f ∧ f ≤ 255) :
    Calls Tryd.prog 31 #[.agg #[], .slice (some ad) 4 c] w fun r w' => r = .returned (.int .u32 (a * 16777216 + (b * 65536 + (d * 256 + f)))) ∧ Below w.heap.size w w' := by
  obtain ⟨ad', hA, hlt, hc⟩ := h.2 (by omega)
  injection hA with hA
  subst hA
  have hlw : ad.block < w.heap.size := World.block_lt_of_cell? w _ (by have := hc 0 _ rfl; rw [add_zeroR] at this; exact this)
  have q0 := hc 0 _ rfl
  have q1 : w.cell? ⟨ad.block, ad.off + 1, none⟩ = some _ := hc 1 _ rfl
  have q2 : w.cell? ⟨ad.block, ad.off + 2, none⟩ = some _ := hc 2 _ rfl
  have q3 : w.cell? ⟨ad.block, ad.off + 3, none⟩ = some _ := hc 3 _ rfl
  have q0' := q0
  rw [add_zeroR] at q0'
  have z1 : bits .or .u32 f (d * 256) = d * 256 + f := joinR32 8 _ _ (by omega) (by omega) (by omega) (by omega) (by omega) (by omega)
  have z2 : bits .or .u32 (d * 256 + f) (b * 65536) = b * 65536 + (d * 256 + f) := joinR32 16 _ _ (by omega) (by omega) (by omega) (by omega) (by omega) (by omega)
  have z3 : bits .or .u32 (b * 65536 + (d * 256 + f)) (a * 16777216) = a * 16777216 + (b * 65536 + (d * 256 + f)) := joinR32 24 _ _ (by omega) (by omega) (by omega) (by omega) (by omega) (by omega)
  clear hc h hlt
  go_enter Tryd.func31, Tryd.ntmps31
  go_wp2
  go_quiet (fail)
  go_wp2
  go_ret
  exact ⟨rfl, below_drewN ((Below.refl _ w).alloc (Nat.le_refl _) _) nq⟩

theorem frm_bin_cases {n : Int} {enc : List Int} (h : FrmBin n enc) : (n < 256 ∧ enc = [196, n]) ∨ (n < 65536 ∧ enc = [197, n / 256, n % 256]) ∨ (n < 4294967296 ∧ enc = [198, n / 16777216, n / 65536 % 256, n / 256 % 256, n % 256]) := by
  obtain ⟨⟨p, hp, hok, rfl⟩, h0, h1⟩ := h
  have e1 : (2 : Int) ^ (8 * 1) = 256 := by decide
  have e2 : (2 : Int) ^ (8 * 2) = 65536 := by decide
  simp only [List.mem_cons, List.not_mem_nil, or_false] at hp
  rcases hp with rfl | rfl | rfl
  · left
    simp only [okF, e1, Bool.or_eq_true, decide_eq_true_eq] at hok
    refine ⟨by omega, ?_⟩
    simp [be, byt]
    omega
  · right; left
    simp only [okF, e2, Bool.or_eq_true, decide_eq_true_eq] at hok
    refine ⟨by omega, ?_⟩
    simp [be, byt]
    omega
  · right; right
    refine ⟨by omega, ?_⟩
    simp [be, byt]
    omega
theorem take_app (e tot : List Int) : (e ++ tot).take e.length = e := by simp
theorem drop_app (e tot : List Int) : (e ++ tot).drop e.length = tot := by simp

set_option maxHeartbeats 4000000 in
set_option maxRecDepth 100000 in
theorem ReadBytesHeader_1 (W : World) (B gr : Nat) (a : Int) (tot : List Int) (h : RS W B gr (([196, a] : List Int) ++ tot) W) (ha : 0 ≤ a ∧ a ≤ 255) :
    Calls Tryd.prog 19 #[.pointer (some ⟨gr, 0, none⟩)] W (fun e W' => e = .returned (.tuple #[.int .u32 (a), .nilIface]) ∧ RS W B gr tot W') := by
  obtain ⟨gs, gd, sz, ch, xs, hb, hB, hs⟩ := h
  have q := hb.cell 0
  simp only [List.getElem?_cons_zero] at q
  have HS := Lib.hid hs
  have HR := Lib.hid hb
  clear hs hb
  go_enter Tryd.func19, Tryd.ntmps19
  go_wp2_with (first
    | (go_at_call 22
       go_must (
         (refine (PeekByte_calls W _ B gs gd sz ch 196 _ HS.out).mono ?_)
         rintro e w1 ⟨rfl, hs1⟩
         have hb1 := hs1.kt gr _ _ (by decide) (by decide) (by decide) HR.out
         have q1 := hb1.cell 0
         simp only [List.getElem?_cons_zero] at q1
         have HS1 := Lib.hid hs1
         have HR1 := Lib.hid hb1
         clear hs1 hb1))
    | (go_at_call 29
       go_must (
         (refine (Next_calls W _ B gs gd sz 2 ch 2 rfl _ HS1.out (by simp) (by omega) (by omega)).mono ?_)
         rintro e w2 ⟨A2, c2, rfl, hc2, hx2, hr2, hs2⟩
         have hs2' : SR W B gs gd sz ch tot w2 := hs2
         have hr2' : Reads w2 w2.heap.size 1 A2 2 (bs [196, a]) := hr2
         have hb2 := hs2'.kt gr _ _ (by decide) (by decide) (by decide) HR.out
         obtain ⟨ad2, hA2, hlt2, hcc2⟩ := hr2'.2 (by omega)
         subst hA2
         have y1 : w2.cell? ⟨ad2.block, ad2.off + 1, none⟩ = some _ := hcc2 1 _ rfl
         clear hcc2 hlt2
         have HS2 := Lib.hid hs2'
         have HR2 := Lib.hid hb2
         have HRD2 := Lib.hid hr2'
         clear hs2 hs2' hr2 hr2' hb2)))
  go_ret2
  exact ⟨rfl, gs, gd, sz, ch, xs, HR2.out, hB, HS2.out⟩

set_option maxHeartbeats 4000000 in
set_option maxRecDepth 100000 in
theorem ReadBytesHeader_2 (W : World) (B gr : Nat) (a b : Int) (tot : List Int) (h : RS W B gr (([197, a, b] : List Int) ++ tot) W) (ha : 0 ≤ a ∧ a ≤ 255) (hb : 0 ≤ b ∧ b ≤ 255) :
    Calls Tryd.prog 19 #[.pointer (some ⟨gr, 0, none⟩)] W (fun e W' => e = .returned (.tuple #[.int .u32 (a * 256 + b), .nilIface]) ∧ RS W B gr tot W') := by
  obtain ⟨gs, gd, sz, ch, xs, hb, hB, hs⟩ := h
  have q := hb.cell 0
  simp only [List.getElem?_cons_zero] at q
  have HS := Lib.hid hs
  have HR := Lib.hid hb
  clear hs hb
  have hld : ∀ w, (loadVar 78 ⟨0, 0, none⟩).run Tryd.prog w = .ok (.agg #[]) w := fun w => by kernel_rfl
  go_enter Tryd.func19, Tryd.ntmps19
  go_wp2_with (first
    | (go_at_call 22
       go_must (
         (refine (PeekByte_calls W _ B gs gd sz ch 197 _ HS.out).mono ?_)
         rintro e w1 ⟨rfl, hs1⟩
         have hb1 := hs1.kt gr _ _ (by decide) (by decide) (by decide) HR.out
         have q1 := hb1.cell 0
         simp only [List.getElem?_cons_zero] at q1
         have HS1 := Lib.hid hs1
         have HR1 := Lib.hid hb1
         clear hs1 hb1))
    | (go_at_call 29
       go_must (
         (refine (Next_calls W _ B gs gd sz 3 ch 3 rfl _ HS1.out (by simp) (by omega) (by omega)).mono ?_)
         rintro e w2 ⟨A2, c2, rfl, hc2, hx2, hr2, hs2⟩
         have hs2' : SR W B gs gd sz ch tot w2 := hs2
         have hr2' : Reads w2 w2.heap.size 1 A2 3 (bs [197, a, b]) := hr2
         have hb2 := hs2'.kt gr _ _ (by decide) (by decide) (by decide) HR.out
         obtain ⟨ad2, hA2, hlt2, hcc2⟩ := hr2'.2 (by omega)
         subst hA2
         have hcut := hr2'.cut (k := 1) (cap := c2) (by omega) (by omega)
         have hrd3 : Reads w2 w2.heap.size 1 (some ⟨ad2.block, ad2.off + 1, none⟩) 2 (bs [a, b]) := by
           have := hcut
           rw [if_neg (by omega)] at this
           exact this
         have HRD3 := Lib.hid hrd3
         clear hcc2 hlt2 hcut hrd3
         have HS2 := Lib.hid hs2'
         have HR2 := Lib.hid hb2
         have HRD2 := Lib.hid hr2'
         clear hs2 hs2' hr2 hr2' hb2)))
  have hrs : RS W B gr tot w2 := ⟨gs, gd, sz, ch, xs, HR2.out, hB, HS2.out⟩
  have HRS := Lib.hid hrs
  have hwv : IntKind.u32.wrap (a * 256 + b) = a * 256 + b := by rw [IntKind.wrap_u32]; omega
  have hc2n : ¬ c2 = 1 := by omega
  have hc21 : (1 : Nat) ≤ c2 := by omega
  have hc22 : (1 : Int) ≤ (c2 : Int) := by omega
  have kA : Below w2.heap.size w2 w2.drew := (Below.refl _ _).drew
  clear hrs q q1
  go_region_held3 (fun W => Below w2.heap.size w2 W) (first | assumption | exact kA) (first
    | (go_at_call 30
       refine (uint16_at w2.drew w2.heap.size _ ⟨ad2.block, ad2.off + 1, none⟩ a b (HRD3.out.drewN 1) ha hb).mono ?_
       rintro e w3 ⟨rfl, hb3⟩
       have hS3 : Below w2.heap.size w2 w3 := kA.trans hb3))
  go_wp2
  go_ret2
  exact ⟨rfl, (HRS.out.grown (belowP_grown hS3 none) 3 (by decide) (by decide) (by decide) (by decide) (fun k hk => by cases hk)).base (HRS.out.bel.trans (hS3.mono (by have := HR2.out.lt; omega))) (HRS.out.kt.grown_far (belowP_grown hS3 none) (fun k hk => by cases hk))⟩

set_option maxHeartbeats 4000000 in
set_option maxRecDepth 100000 in
theorem ReadBytesHeader_4 (W : World) (B gr : Nat) (a b d f : Int) (tot : List Int) (h : RS W B gr (([198, a, b, d, f] : List Int) ++ tot) W) (ha : 0 ≤ a ∧ a ≤ 255) (hb : 0 ≤ b ∧ b ≤ 255) (hd : 0 ≤ d ∧ d ≤ 255) (hf : 0 ≤ f ∧ f ≤ 255) :
    Calls Tryd.prog 19 #[.pointer (some ⟨gr, 0, none⟩)] W (fun e W' => e = .returned (.tuple #[.int .u32 (a * 16777216 + (b * 65536 + (d * 256 + f))), .nilIface]) ∧ RS W B gr tot W') := by
  obtain ⟨gs, gd, sz, ch, xs, hb, hB, hs⟩ := h
  have q := hb.cell 0
  simp only [List.getElem?_cons_zero] at q
  have HS := Lib.hid hs
  have HR := Lib.hid hb
  clear hs hb
  have hld : ∀ w, (loadVar 78 ⟨0, 0, none⟩).run Tryd.prog w = .ok (.agg #[]) w := fun w => by kernel_rfl
  go_enter Tryd.func19, Tryd.ntmps19
  go_wp2_with (first
    | (go_at_call 22
       go_must (
         (refine (PeekByte_calls W _ B gs gd sz ch 198 _ HS.out).mono ?_)
         rintro e w1 ⟨rfl, hs1⟩
         have hb1 := hs1.kt gr _ _ (by decide) (by decide) (by decide) HR.out
         have q1 := hb1.cell 0
         simp only [List.getElem?_cons_zero] at q1
         have HS1 := Lib.hid hs1
         have HR1 := Lib.hid hb1
         clear hs1 hb1))
    | (go_at_call 29
       go_must (
         (refine (Next_calls W _ B gs gd sz 5 ch 5 rfl _ HS1.out (by simp) (by omega) (by omega)).mono ?_)
         rintro e w2 ⟨A2, c2, rfl, hc2, hx2, hr2, hs2⟩
         have hs2' : SR W B gs gd sz ch tot w2 := hs2
         have hr2' : Reads w2 w2.heap.size 1 A2 5 (bs [198, a, b, d, f]) := hr2
         have hb2 := hs2'.kt gr _ _ (by decide) (by decide) (by decide) HR.out
         obtain ⟨ad2, hA2, hlt2, hcc2⟩ := hr2'.2 (by omega)
         subst hA2
         have hcut := hr2'.cut (k := 1) (cap := c2) (by omega) (by omega)
         have hrd3 : Reads w2 w2.heap.size 1 (some ⟨ad2.block, ad2.off + 1, none⟩) 4 (bs [a, b, d, f]) := by
           have := hcut
           rw [if_neg (by omega)] at this
           exact this
         have HRD3 := Lib.hid hrd3
         clear hcc2 hlt2 hcut hrd3
         have HS2 := Lib.hid hs2'
         have HR2 := Lib.hid hb2
         have HRD2 := Lib.hid hr2'
         clear hs2 hs2' hr2 hr2' hb2)))
  have hrs : RS W B gr tot w2 := ⟨gs, gd, sz, ch, xs, HR2.out, hB, HS2.out⟩
  have HRS := Lib.hid hrs
  have hwv : IntKind.u32.wrap (a * 16777216 + (b * 65536 + (d * 256 + f))) = a * 16777216 + (b * 65536 + (d * 256 + f)) := by rw [IntKind.wrap_u32]; omega
  have hc2n : ¬ c2 = 1 := by omega
  have hc21 : (1 : Nat) ≤ c2 := by omega
  have hc22 : (1 : Int) ≤ (c2 : Int) := by omega
  have kA : Below w2.heap.size w2 w2.drew := (Below.refl _ _).drew
  clear hrs q q1
  go_region_held3 (fun W => Below w2.heap.size w2 W) (first | assumption | exact kA) (first
    | (go_at_call 31
       refine (uint32_at w2.drew w2.heap.size _ ⟨ad2.block, ad2.off + 1, none⟩ a b d f (HRD3.out.drewN 1) ha hb hd hf).mono ?_
       rintro e w3 ⟨rfl, hb3⟩
       have hS3 : Below w2.heap.size w2 w3 := kA.trans hb3))
  go_wp2
  go_ret2
  exact ⟨rfl, (HRS.out.grown (belowP_grown hS3 none) 3 (by decide) (by decide) (by decide) (by decide) (fun k hk => by cases hk)).base (HRS.out.bel.trans (hS3.mono (by have := HR2.out.lt; omega))) (HRS.out.kt.grown_far (belowP_grown hS3 none) (fun k hk => by cases hk))⟩

theorem ReadBytesHeader_self (W : World) (B gr : Nat) (n : Int) (enc : List Int) (hf : FrmBin n enc) (tot : List Int) (h : RS W B gr (enc ++ tot) W) :
    Calls Tryd.prog 19 #[.pointer (some ⟨gr, 0, none⟩)] W (fun e W' => e = .returned (.tuple #[.int .u32 n, .nilIface]) ∧ RS W B gr tot W') := by
  have h0 : 0 ≤ n := hf.2.1
  rcases frm_bin_cases hf with ⟨h1, rfl⟩ | ⟨h1, rfl⟩ | ⟨h1, rfl⟩
  · exact ReadBytesHeader_1 W B gr n tot h ⟨by omega, by omega⟩
  · have := ReadBytesHeader_2 W B gr (n / 256) (n % 256) tot h ⟨by omega, by omega⟩ ⟨by omega, by omega⟩
    rwa [show n / 256 * 256 + n % 256 = n by omega] at this
  · have := ReadBytesHeader_4 W B gr (n / 16777216) (n / 65536 % 256) (n / 256 % 256) (n % 256) tot h ⟨by omega, by omega⟩ ⟨by omega, by omega⟩ ⟨by omega, by omega⟩ ⟨by omega, by omega⟩
    rwa [show n / 16777216 * 16777216 + (n / 65536 % 256 * 65536 + (n / 256 % 256 * 256 + n % 256)) = n by omega] at this
theorem ReadBytesHeader_calls (w0 W : World) (B gr : Nat) (n : Int) (enc : List Int) (hf : FrmBin n enc) (tot : List Int) (h : RS w0 B gr (enc ++ tot) W) :
    Calls Tryd.prog 19 #[.pointer (some ⟨gr, 0, none⟩)] W (fun e W' => e = .returned (.tuple #[.int .u32 n, .nilIface]) ∧ RS w0 B gr tot W') :=
  (ReadBytesHeader_self W B gr n enc hf tot h.self).mono fun _ _ ⟨he, hr⟩ => ⟨he, hr.base h.bel h.kt⟩
end Go.Proofs.YtideagfkfipbbaaDoor
