/-
  THE WALK of wideMul (20): the school method on halves of 32 bits (the library's arithmetic under math/bits.Mul64: Derived/Lib/Mul64).
-/
import Derived.Test.Qxb6605940aRows
import Derived.Test.Qxb6605940aPlain
import Derived.WalkKit
import Derived.WalkSpells
import Derived.Lib.Mul64
import Derived.Laws.Bits64b
namespace Go.Proofs.Qxb6605940a
open Go.RowKit

/-- The high and the low word of a product. -/
def hiW (a b : Int) : Int := a * b / 18446744073709551616
def loW (a b : Int) : Int := a * b % 18446744073709551616

theorem maskN (a : Nat) (ha : a < 18446744073709551616) : bits .and .u64 (a : Int) 4294967295 = ((a % 4294967296 : Nat) : Int) := by
  have h := bits_and_u64_nat a 4294967295 ha (by omega)
  have e : a &&& 4294967295 = a % 4294967296 := Nat.and_two_pow_sub_one_eq_mod a 32
  rw [e] at h
  exact h
theorem divN (a : Nat) : (a : Int) / 4294967296 = ((a / 4294967296 : Nat) : Int) := by omega
theorem mulN (a b : Nat) : (a : Int) * (b : Int) = ((a * b : Nat) : Int) := (Int.natCast_mul a b).symm
theorem addN (a b : Nat) : (a : Int) + (b : Int) = ((a + b : Nat) : Int) := (Int.natCast_add a b).symm
theorem wrapN (a : Nat) (ha : a < 18446744073709551616) : IntKind.u64.wrap (a : Int) = (a : Int) := by rw [IntKind.wrap_u64]; omega
theorem wrapM (a : Nat) : IntKind.u64.wrap (a : Int) = ((a % 18446744073709551616 : Nat) : Int) := by rw [IntKind.wrap_u64]; omega

set_option maxHeartbeats 1000000 in
theorem wideMul_nat (x y : Nat) (hx : x < 18446744073709551616) (hy : y < 18446744073709551616) (w : World) :
    Calls Try.prog 20 #[.int .u64 x, .int .u64 y] w fun e w' => e = .returned (.tuple #[.int .u64 ((x * y / 18446744073709551616 : Nat) : Int), .int .u64 ((x * y % 18446744073709551616 : Nat) : Int)]) ∧ w = w' := by
  obtain ⟨bd, bt, bw, hhi⟩ := Lib.mul64_hi x y hx hy
  have ba := Lib.half_mul_le (a := x / 4294967296) (b := y / 4294967296) (by omega) (by omega)
  have bb := Lib.half_mul_le (a := x / 4294967296) (b := y % 4294967296) (by omega) (by omega)
  have bc := Lib.half_mul_le (a := x % 4294967296) (b := y / 4294967296) (by omega) (by omega)
  have ba' : x / 4294967296 * (y / 4294967296) < 18446744073709551616 := by omega
  have bb' : x / 4294967296 * (y % 4294967296) < 18446744073709551616 := by omega
  have bc' : x % 4294967296 * (y / 4294967296) < 18446744073709551616 := by omega
  have bh1 : x / 4294967296 * (y / 4294967296) + (x / 4294967296 * (y % 4294967296) + x % 4294967296 * (y % 4294967296) / 4294967296) / 4294967296 < 18446744073709551616 := by omega
  have bh : x / 4294967296 * (y / 4294967296) + (x / 4294967296 * (y % 4294967296) + x % 4294967296 * (y % 4294967296) / 4294967296) / 4294967296 + ((x / 4294967296 * (y % 4294967296) + x % 4294967296 * (y % 4294967296) / 4294967296) % 4294967296 + x % 4294967296 * (y / 4294967296)) / 4294967296 < 18446744073709551616 := by omega
  go_enter Try.func20, Try.ntmps20
  go_wp2
  simp only [maskN x hx, maskN y hy, divN, mulN, addN, wrapN _ bd, wrapN _ bb', wrapN _ bt, maskN _ bt, wrapN _ bc', wrapN _ bw, wrapN _ ba', wrapN _ bh1, wrapN _ bh, wrapM]
  rw [hhi]
  go_ret2
  exact ⟨rfl, rfl⟩

theorem wideMul_any (a b : Int) (ha : 0 ≤ a ∧ a ≤ 9223372036854775807) (hb : 0 ≤ b ∧ b ≤ 9223372036854775807) (w : World) :
    Calls Try.prog 20 #[.int .u64 a, .int .u64 b] w fun e w' => e = .returned (.tuple #[.int .u64 (hiW a b), .int .u64 (loW a b)]) ∧ w = w' := by
  obtain ⟨x, rfl⟩ := Int.eq_ofNat_of_zero_le ha.1
  obtain ⟨y, rfl⟩ := Int.eq_ofNat_of_zero_le hb.1
  refine (wideMul_nat x y (by omega) (by omega) w).mono ?_
  rintro e w' ⟨rfl, rfl⟩
  refine ⟨?_, rfl⟩
  unfold hiW loW
  rw [← Int.natCast_mul]
  congr 1

/-! ### What the two words say of the product -/
theorem words_fit (a b l : Int) (h0 : 0 ≤ a * b) (h : a * b ≤ l) (hl : l ≤ 9223372036854775807) : hiW a b = 0 ∧ loW a b = a * b := by
  unfold hiW loW
  generalize a * b = p at *
  omega
theorem words_over (a b l : Int) (h : l < a * b) : hiW a b ≠ 0 ∨ l < loW a b := by
  unfold hiW loW
  generalize a * b = p at *
  omega
theorem words_nonneg (a b : Int) : 0 ≤ loW a b := by
  unfold loW
  generalize a * b = p at *
  omega
theorem words_lo_lt (a b : Int) : loW a b ≤ 18446744073709551615 := by
  unfold loW
  generalize a * b = p at *
  omega

end Go.Proofs.Qxb6605940a
