/- Contract of bits.Mul64: the product of two words. -/
import Derived.Test.YtmfeeeaajelfjaaProg
import Derived.Handy
import Derived.WalkSpells
import Derived.WalkLawsBesides
import Derived.Lib.Mul64
import Derived.Lib.Hide
import Derived.Test.YtmfeeeaajelfjaaPlain
import Derived.Test.YtmfeeeaajelfjaaMem
namespace Go.Proofs.Ytmfeeeaajelfjaa
open Go.RowKit

namespace M
theorem mask (a : Nat) (ha : a < 18446744073709551616) : bits .and .u64 (a : Int) 4294967295 = ((a % 4294967296 : Nat) : Int) := by
  have h := bits_and_u64_nat a 4294967295 ha (by omega)
  have e : a &&& 4294967295 = a % 4294967296 := Nat.and_two_pow_sub_one_eq_mod a 32
  rw [e] at h
  exact h
theorem div (a : Nat) : (a : Int) / 4294967296 = ((a / 4294967296 : Nat) : Int) := by omega
theorem mul (a b : Nat) : (a : Int) * (b : Int) = ((a * b : Nat) : Int) := (Int.natCast_mul a b).symm
theorem add (a b : Nat) : (a : Int) + (b : Int) = ((a + b : Nat) : Int) := (Int.natCast_add a b).symm
theorem wrapN (a : Nat) (ha : a < 18446744073709551616) : IntKind.u64.wrap (a : Int) = (a : Int) := by rw [IntKind.wrap_u64]; omega
theorem wrapM (a : Nat) : IntKind.u64.wrap (a : Int) = ((a % 18446744073709551616 : Nat) : Int) := by rw [IntKind.wrap_u64]; omega
end M

set_option maxHeartbeats 1000000 in
theorem mul64_any (x y : Nat) (hx : x < 18446744073709551616) (hy : y < 18446744073709551616) (w : World) :
    Calls Try.prog 59 #[.int .u64 x, .int .u64 y] w fun e w' => e = .returned (.tuple #[.int .u64 (Pl.mulHi x y : Nat), .int .u64 (Pl.mulLo x y : Nat)]) ∧ w = w' := by
  obtain ⟨bd, bt, bw, hhi⟩ := Lib.mul64_hi x y hx hy
  have ba := Lib.half_mul_le (a := x / 4294967296) (b := y / 4294967296) (by omega) (by omega)
  have bb := Lib.half_mul_le (a := x / 4294967296) (b := y % 4294967296) (by omega) (by omega)
  have bc := Lib.half_mul_le (a := x % 4294967296) (b := y / 4294967296) (by omega) (by omega)
  have ba' : x / 4294967296 * (y / 4294967296) < 18446744073709551616 := by omega
  have bb' : x / 4294967296 * (y % 4294967296) < 18446744073709551616 := by omega
  have bc' : x % 4294967296 * (y / 4294967296) < 18446744073709551616 := by omega
  have bh1 : x / 4294967296 * (y / 4294967296) + (x / 4294967296 * (y % 4294967296) + x % 4294967296 * (y % 4294967296) / 4294967296) / 4294967296 < 18446744073709551616 := by omega
  have bh : x / 4294967296 * (y / 4294967296) + (x / 4294967296 * (y % 4294967296) + x % 4294967296 * (y % 4294967296) / 4294967296) / 4294967296 + ((x / 4294967296 * (y % 4294967296) + x % 4294967296 * (y % 4294967296) / 4294967296) % 4294967296 + x % 4294967296 * (y / 4294967296)) / 4294967296 < 18446744073709551616 := by omega
  go_enter Try.func59, Try.ntmps59
  go_wp2
  simp only [M.mask x hx, M.mask y hy, M.div, M.mul, M.add, M.wrapN _ bd, M.wrapN _ bb', M.wrapN _ bt, M.mask _ bt, M.wrapN _ bc', M.wrapN _ bw, M.wrapN _ ba', M.wrapN _ bh1, M.wrapN _ bh, M.wrapM (x * y)]
  rw [hhi, ← Pl.mulHi_def, ← Pl.mulLo_def]
  go_ret2
  exact ⟨rfl, rfl⟩

end Go.Proofs.Ytmfeeeaajelfjaa
