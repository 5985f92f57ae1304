/- Contract of the reference's Product. -/
import Derived.Test.YtdailbjipfbdfaaMul
namespace Go.Proofs.Ytdailbjipfbdfaa
open Go.RowKit

set_option maxHeartbeats 400000 in
theorem parts_any (x : Nat) (w : World) (hx : x < 18446744073709551616) :
    Calls Try.prog 31 #[.int .u64 x] w fun e w' => e = .returned (.tuple #[.int .u64 ((x / 4294967296 : Nat) : Int), .int .u64 ((x % 4294967296 : Nat) : Int)]) ∧ w = w' := by
  go_enter Try.func31, Try.ntmps31
  go_wp2
  simp only [M.mask x hx, M.div]
  go_ret2
  exact ⟨rfl, rfl⟩

theorem ret_agg {x y x' y' : Int} (h1 : x = x') (h2 : y = y') : Ending.returned (.agg #[.int .u64 x, .int .u64 y]) = .returned (.agg #[.int .u64 x', .int .u64 y']) := by rw [h1, h2]
theorem modN (a : Nat) : (a : Int) % 4294967296 = ((a % 4294967296 : Nat) : Int) := by omega
theorem half_lt {a b : Nat} (ha : a < 4294967296) (hb : b < 4294967296) : a * b ≤ 18446744065119617025 := Lib.half_mul_le (by omega) (by omega)

/-- The product by halves, as the walk spells it, over the four products of halves. -/
theorem product_hi_aux (p q r s : Nat) (hp : p ≤ 18446744065119617025) (hq : q ≤ 18446744065119617025) (hr : r ≤ 18446744065119617025) (hs : s ≤ 18446744065119617025)
    (hall : s + q / 4294967296 + r / 4294967296 + (p / 4294967296 + q % 4294967296 + r % 4294967296) / 4294967296 < 18446744073709551616) :
    IntKind.u64.wrap (IntKind.u64.wrap (IntKind.u64.wrap (IntKind.u64.wrap (s : Int) + IntKind.u64.wrap (q : Int) / 4294967296) + IntKind.u64.wrap (r : Int) / 4294967296) +
      IntKind.u64.wrap (IntKind.u64.wrap (IntKind.u64.wrap (p : Int) / 4294967296 + bits .and .u64 (IntKind.u64.wrap (q : Int)) 4294967295) + bits .and .u64 (IntKind.u64.wrap (r : Int)) 4294967295) / 4294967296) =
      ((s + q / 4294967296 + r / 4294967296 + (p / 4294967296 + q % 4294967296 + r % 4294967296) / 4294967296 : Nat) : Int) := by
  rw [M.wrapN p (by omega), M.wrapN q (by omega), M.wrapN r (by omega), M.wrapN s (by omega), M.mask q (by omega), M.mask r (by omega)]
  simp only [IntKind.wrap_u64]
  omega
theorem product_lo_aux (p q r : Nat) (hp : p ≤ 18446744065119617025) (hq : q ≤ 18446744065119617025) (hr : r ≤ 18446744065119617025) :
    IntKind.u64.wrap (IntKind.u64.wrap (IntKind.u64.wrap (IntKind.u64.wrap (IntKind.u64.wrap (p : Int) / 4294967296 + bits .and .u64 (IntKind.u64.wrap (q : Int)) 4294967295) + bits .and .u64 (IntKind.u64.wrap (r : Int)) 4294967295) * 4294967296) +
      bits .and .u64 (IntKind.u64.wrap (p : Int)) 4294967295) =
      (((p / 4294967296 + q % 4294967296 + r % 4294967296) % 4294967296 * 4294967296 + p % 4294967296 : Nat) : Int) := by
  rw [M.wrapN p (by omega), M.wrapN q (by omega), M.wrapN r (by omega), M.mask q (by omega), M.mask r (by omega), M.mask p (by omega)]
  simp only [IntKind.wrap_u64]
  omega

set_option maxHeartbeats 1000000 in
theorem product_any (x y : Nat) (w : World) (hx : x < 18446744073709551616) (hy : y < 18446744073709551616) :
    Calls Try.prog 18 #[.int .u64 x, .int .u64 y] w fun e w' => e = .returned (.agg #[.int .u64 (Pl.mulHi x y : Nat), .int .u64 (Pl.mulLo x y : Nat)]) ∧ Below w.heap.size w w' := by
  go_enter Try.func18, Try.ntmps18
  go_wp2_with (go_at_call 31; refine (parts_any _ _ (by assumption)).mono ?_; rintro e w' ⟨rfl, rfl⟩)
  go_returns
  have b1 := half_lt (a := x % 4294967296) (b := y % 4294967296) (by omega) (by omega)
  have b2 := half_lt (a := x / 4294967296) (b := y % 4294967296) (by omega) (by omega)
  have b3 := half_lt (a := x % 4294967296) (b := y / 4294967296) (by omega) (by omega)
  have b4 := half_lt (a := x / 4294967296) (b := y / 4294967296) (by omega) (by omega)
  obtain ⟨e1, e2⟩ := Pl.product_eq x y hx hy
  have hm := Pl.mulHi_lt hx hy
  refine ⟨ret_agg ?_ ?_, by go_grown⟩
  · simp only [M.div, modN, M.mul]
    rw [product_hi_aux _ _ _ _ b1 b2 b3 b4 (by rw [e2, ← Pl.mulHi_def]; exact hm), e2, Pl.mulHi_def]
  · simp only [M.div, modN, M.mul]
    rw [product_lo_aux _ _ _ b1 b2 b3, e1, Pl.mulLo_def]

end Go.Proofs.Ytdailbjipfbdfaa
