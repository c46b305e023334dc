/- Bits of bytes: what '&' and '|' with a constant come to, by trying all 256. -/
import Derived.WalkKit
namespace Go.Proofs.YtjjhckbidcdkcaaDoor
theorem u8_all {p : Int → Prop} (h : ∀ n : Fin 256, p (n.val : Int)) (u : Int) (h0 : 0 ≤ u) (h1 : u ≤ 255) : p u := by
  have := h ⟨u.toNat, by omega⟩
  rwa [show ((u.toNat : Nat) : Int) = u by omega] at this
theorem and127 (u : Int) (h0 : 0 ≤ u) (h1 : u ≤ 255) : bits .and .u8 u 127 = u % 128 := u8_all (p := fun u => bits .and .u8 u 127 = u % 128) (by decide +kernel) u h0 h1
theorem and15 (u : Int) (h0 : 0 ≤ u) (h1 : u ≤ 255) : bits .and .u8 u 15 = u % 16 := u8_all (p := fun u => bits .and .u8 u 15 = u % 16) (by decide +kernel) u h0 h1
theorem and31 (u : Int) (h0 : 0 ≤ u) (h1 : u ≤ 255) : bits .and .u8 u 31 = u % 32 := u8_all (p := fun u => bits .and .u8 u 31 = u % 32) (by decide +kernel) u h0 h1
theorem or224 (u : Int) (h0 : 0 ≤ u) (h1 : u ≤ 255) : bits .or .u8 u 224 = 224 + u % 32 := u8_all (p := fun u => bits .or .u8 u 224 = 224 + u % 32) (by decide +kernel) u h0 h1
theorem or128 (u : Int) (h0 : 0 ≤ u) (h1 : u ≤ 15) : bits .or .u8 u 128 = 128 + u :=
  u8_all (p := fun u => u ≤ 15 → bits .or .u8 u 128 = 128 + u) (by decide +kernel) u h0 (by omega) h1
theorem or144 (u : Int) (h0 : 0 ≤ u) (h1 : u ≤ 15) : bits .or .u8 u 144 = 144 + u :=
  u8_all (p := fun u => u ≤ 15 → bits .or .u8 u 144 = 144 + u) (by decide +kernel) u h0 (by omega) h1
/-- Eight bits are put behind a number: u << 8 | b. -/
theorem or_join8 (u b : Int) (h0 : 0 ≤ u) (h1 : u < 72057594037927936) (h2 : 0 ≤ b) (h3 : b ≤ 255) : bits .or .u64 (u * 256) b = u * 256 + b := by
  rw [u64_or _ _ (by omega) (by omega) h2 (by omega), nat_join 8 _ _ (by omega) (by omega)]
  omega
end Go.Proofs.YtjjhckbidcdkcaaDoor
