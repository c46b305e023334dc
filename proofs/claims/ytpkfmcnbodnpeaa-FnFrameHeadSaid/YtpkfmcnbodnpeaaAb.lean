/- AMQP: binary.BigEndian.Uint16, Uint32 at bytes that are variables. (For FnFrameHead.) -/
import Derived.Test.YtpkfmcnbodnpeaaAh
import Derived.Laws.BitsAllLaws
namespace Go.Proofs.Ytpkfmcnbodnpeaa
open Go.RowKit
set_option linter.unusedVariables false

theorem join16 (a b : Int) (ha : 0 ≤ a) (ha1 : a ≤ 255) (hb : 0 ≤ b) (hb1 : b ≤ 255) : bits .or .u16 b (a * 256) = a * 256 + b := by
  rw [u16_or _ _ hb (by omega) (by omega) (by omega), Nat.or_comm, nat_join 8 _ _ (by omega) (by omega)]
  omega
theorem join32 (i : Nat) (u x : Int) (hu : 0 ≤ u) (hu1 : u < 2 ^ i) (hx : 0 ≤ x) (hx1 : x < 4294967296) (hxm : x.toNat % 2 ^ i = 0) (hi : i ≤ 31) : bits .or .u32 u x = x + u := by
  have hp : (2 : Int) ^ i ≤ 2147483648 := by
    have : (2 : Int) ^ i ≤ 2 ^ 31 := by exact_mod_cast Nat.pow_le_pow_right (by omega) hi
    simpa using this
  have hun : u.toNat < 2 ^ i := by
    have h2 : ((2 ^ i : Nat) : Int) = (2 : Int) ^ i := by norm_cast
    omega
  rw [u32_or _ _ hu (by omega) hx hx1, Nat.or_comm, nat_join i _ _ hxm hun]
  omega

set_option maxHeartbeats 1000000 in
set_option maxRecDepth 100000 in
theorem uint16_calls (w : World) (g c : Nat) (a b : Int) (ha : 0 ≤ a) (ha1 : a ≤ 255) (hb : 0 ≤ b) (hb1 : b ≤ 255) (hg : g < w.heap.size)
    (q0 : w.cell? ⟨g, 6, none⟩ = some (.int .u8 a)) (q1 : w.cell? ⟨g, 7, none⟩ = some (.int .u8 b)) :
    Calls Try.prog 17 #[.agg #[], .slice (some ⟨g, 6, none⟩) 2 c] w fun e w' => e = .returned (.int .u16 (a * 256 + b)) ∧ Below w.heap.size w w' := by
  have hor := join16 a b ha ha1 hb hb1
  go_enter Try.func17, Try.ntmps17
  go_wp2
  go_quiet (fail)
  go_wp2
  go_ret
  exact ⟨rfl, below_drewN ((Below.refl _ w).alloc (Nat.le_refl _) _) nq⟩

set_option maxHeartbeats 1000000 in
set_option maxRecDepth 100000 in
theorem uint32_calls (w : World) (g c : Nat) (a b d e : Int) (ha : 0 ≤ a) (ha1 : a ≤ 255) (hb : 0 ≤ b) (hb1 : b ≤ 255) (hd : 0 ≤ d) (hd1 : d ≤ 255) (he : 0 ≤ e) (he1 : e ≤ 255) (hg : g < w.heap.size)
    (q0 : w.cell? ⟨g, 0, none⟩ = some (.int .u8 a)) (q1 : w.cell? ⟨g, 1, none⟩ = some (.int .u8 b)) (q2 : w.cell? ⟨g, 2, none⟩ = some (.int .u8 d)) (q3 : w.cell? ⟨g, 3, none⟩ = some (.int .u8 e)) :
    Calls Try.prog 16 #[.agg #[], .slice (some ⟨g, 0, none⟩) 4 c] w fun r w' => r = .returned (.int .u32 (a * 16777216 + (b * 65536 + (d * 256 + e)))) ∧ Below w.heap.size w w' := by
  have h1 : bits .or .u32 e (d * 256) = d * 256 + e := join32 8 e (d * 256) he (by omega) (by omega) (by omega) (by omega) (by omega)
  have h2 : bits .or .u32 (d * 256 + e) (b * 65536) = b * 65536 + (d * 256 + e) := join32 16 _ (b * 65536) (by omega) (by omega) (by omega) (by omega) (by omega) (by omega)
  have h3 : bits .or .u32 (b * 65536 + (d * 256 + e)) (a * 16777216) = a * 16777216 + (b * 65536 + (d * 256 + e)) := join32 24 _ (a * 16777216) (by omega) (by omega) (by omega) (by omega) (by omega) (by omega)
  go_enter Try.func16, Try.ntmps16
  go_wp2
  go_quiet (fail)
  go_wp2
  go_ret
  exact ⟨rfl, below_drewN ((Below.refl _ w).alloc (Nat.le_refl _) _) nq⟩
end Go.Proofs.Ytpkfmcnbodnpeaa
