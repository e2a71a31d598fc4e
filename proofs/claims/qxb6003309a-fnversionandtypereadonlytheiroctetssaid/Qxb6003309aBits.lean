import Derived.WalkKit
namespace Go.Proofs.Qxb6003309a
open Go.RowKit

theorem and15 (x : Int) (h0 : 0 ≤ x) (h1 : x ≤ 255) : bits .and .u8 x 15 = x % 16 := bits_mask .u8 8 (by decide) wraps_u8 4 (by decide) x h0 (by omega)
theorem and31 (x : Int) (h0 : 0 ≤ x) (h1 : x ≤ 255) : bits .and .u8 x 31 = x % 32 := bits_mask .u8 8 (by decide) wraps_u8 5 (by decide) x h0 (by omega)
theorem or240 (y : Int) (h0 : 0 ≤ y) (h1 : y ≤ 15) : bits .or .u8 y 240 = y + 240 := by
  obtain ⟨n, rfl⟩ := Int.eq_ofNat_of_zero_le h0
  have hn : n < 16 := by omega
  have e : ∀ m : Nat, m < 16 → (m ||| 240) = m + 240 := by decide
  have := (bits_nat .u8 8 (by decide) wraps_u8 n 240 (by omega) (by decide)).2
  rw [e n hn] at this
  exact this
theorem and224 (x : Int) (h0 : 0 ≤ x) (h1 : x ≤ 255) : bits .and .u8 x 224 = x / 32 * 32 := by
  obtain ⟨n, rfl⟩ := Int.eq_ofNat_of_zero_le h0
  have hn : n < 256 := by omega
  have e : ∀ m : Nat, m < 256 → (m &&& 224) = m / 32 * 32 := by decide +kernel
  have := (bits_nat .u8 8 (by decide) wraps_u8 n 224 (by omega) (by decide)).1
  rw [e n hn] at this
  exact this
theorem or32 (x y : Int) (h0 : 0 ≤ x) (h1 : x ≤ 255) (h2 : x % 32 = 0) (h3 : 0 ≤ y) (h4 : y < 32) : bits .or .u8 x y = x + y :=
  bits_join .u8 8 (by decide) wraps_u8 5 x y h0 h2 (by omega) h3 h4 (by omega)
end Go.Proofs.Qxb6003309a
