/- Contracts of the reference's arithmetic: parts, Product, Plus, Times, Factor, Added, opposite, Step. -/
import Derived.Test.YtglfeoiakhnkgaaDoorPcgA
import Derived.Deep.RegionWith
namespace Go.Proofs.YtglfeoiakhnkgaaDoor
open Go.RowKit

/-- A state as a value: its two words. -/
noncomputable abbrev stV (s : Nat) : Value := .agg #[.int .u64 (Pl.hiW s : Nat), .int .u64 (Pl.loW s : Nat)]

set_option maxHeartbeats 400000 in
theorem parts_any (x : Nat) (w : World) (hx : x < 18446744073709551616) :
    Calls Tryd.prog 31 #[.int .u64 x] w fun e w' => e = .returned (.tuple #[.int .u64 ((x / 4294967296 : Nat) : Int), .int .u64 ((x % 4294967296 : Nat) : Int)]) ∧ w = w' := by
  go_enter Tryd.func31, Tryd.ntmps31
  go_wp2
  simp only [M.mask x hx, M.div]
  go_ret2
  exact ⟨rfl, rfl⟩

theorem ret_st {x y : Int} {s : Nat} (h1 : x = (Pl.hiW s : Nat)) (h2 : y = (Pl.loW s : Nat)) : Ending.returned (.agg #[.int .u64 x, .int .u64 y]) = .returned (stV s) := by subst h1 h2; rfl
theorem ret_agg {x y x' y' : Int} (h1 : x = x') (h2 : y = y') : Ending.returned (.agg #[.int .u64 x, .int .u64 y]) = .returned (.agg #[.int .u64 x', .int .u64 y']) := by rw [h1, h2]

theorem modN (a : Nat) : (a : Int) % 4294967296 = ((a % 4294967296 : Nat) : Int) := by omega
theorem half_lt {a b : Nat} (ha : a < 4294967296) (hb : b < 4294967296) : a * b ≤ 18446744065119617025 := Lib.half_mul_le (by omega) (by omega)

/-- The product by halves, as the walk spells it, over the four products of halves. -/
theorem product_hi_aux (p q r s : Nat) (hp : p ≤ 18446744065119617025) (hq : q ≤ 18446744065119617025) (hr : r ≤ 18446744065119617025) (hs : s ≤ 18446744065119617025)
    (hall : s + q / 4294967296 + r / 4294967296 + (p / 4294967296 + q % 4294967296 + r % 4294967296) / 4294967296 < 18446744073709551616) :
    IntKind.u64.wrap (IntKind.u64.wrap (IntKind.u64.wrap (IntKind.u64.wrap (s : Int) + IntKind.u64.wrap (q : Int) / 4294967296) + IntKind.u64.wrap (r : Int) / 4294967296) +
      IntKind.u64.wrap (IntKind.u64.wrap (IntKind.u64.wrap (p : Int) / 4294967296 + bits .and .u64 (IntKind.u64.wrap (q : Int)) 4294967295) + bits .and .u64 (IntKind.u64.wrap (r : Int)) 4294967295) / 4294967296) =
      ((s + q / 4294967296 + r / 4294967296 + (p / 4294967296 + q % 4294967296 + r % 4294967296) / 4294967296 : Nat) : Int) := by
  rw [M.wrapN p (by omega), M.wrapN q (by omega), M.wrapN r (by omega), M.wrapN s (by omega), M.mask q (by omega), M.mask r (by omega)]
  simp only [IntKind.wrap_u64]
  omega
theorem product_lo_aux (p q r : Nat) (hp : p ≤ 18446744065119617025) (hq : q ≤ 18446744065119617025) (hr : r ≤ 18446744065119617025) :
    IntKind.u64.wrap (IntKind.u64.wrap (IntKind.u64.wrap (IntKind.u64.wrap (IntKind.u64.wrap (p : Int) / 4294967296 + bits .and .u64 (IntKind.u64.wrap (q : Int)) 4294967295) + bits .and .u64 (IntKind.u64.wrap (r : Int)) 4294967295) * 4294967296) +
      bits .and .u64 (IntKind.u64.wrap (p : Int)) 4294967295) =
      (((p / 4294967296 + q % 4294967296 + r % 4294967296) % 4294967296 * 4294967296 + p % 4294967296 : Nat) : Int) := by
  rw [M.wrapN p (by omega), M.wrapN q (by omega), M.wrapN r (by omega), M.mask q (by omega), M.mask r (by omega), M.mask p (by omega)]
  simp only [IntKind.wrap_u64]
  omega

set_option maxHeartbeats 1000000 in
theorem product_any (x y : Nat) (w : World) (hx : x < 18446744073709551616) (hy : y < 18446744073709551616) :
    Calls Tryd.prog 27 #[.int .u64 x, .int .u64 y] w fun e w' => e = .returned (.agg #[.int .u64 (Pl.mulHi x y : Nat), .int .u64 (Pl.mulLo x y : Nat)]) ∧ Below w.heap.size w w' := by
  go_enter Tryd.func27, Tryd.ntmps27
  go_wp2_with (go_at_call 31; refine (parts_any _ _ (by assumption)).mono ?_; rintro e w' ⟨rfl, rfl⟩)
  go_returns
  have b1 := half_lt (a := x % 4294967296) (b := y % 4294967296) (by omega) (by omega)
  have b2 := half_lt (a := x / 4294967296) (b := y % 4294967296) (by omega) (by omega)
  have b3 := half_lt (a := x % 4294967296) (b := y / 4294967296) (by omega) (by omega)
  have b4 := half_lt (a := x / 4294967296) (b := y / 4294967296) (by omega) (by omega)
  obtain ⟨e1, e2⟩ := Pl.product_eq x y hx hy
  have hm := Pl.mulHi_lt hx hy
  refine ⟨ret_agg ?_ ?_, by go_grown⟩
  · simp only [M.div, modN, M.mul]
    rw [product_hi_aux _ _ _ _ b1 b2 b3 b4 (by rw [e2, ← Pl.mulHi_def]; exact hm), e2, Pl.mulHi_def]
  · simp only [M.div, modN, M.mul]
    rw [product_lo_aux _ _ _ b1 b2 b3, e1, Pl.mulLo_def]

theorem plus_hi1 (a b c d : Nat) (ha : a < 18446744073709551616) (hb : b < 18446744073709551616) (hc : c < 18446744073709551616) (hd : d < 18446744073709551616) (h : IntKind.u64.wrap ((b : Int) + d) < b) :
    IntKind.u64.wrap (IntKind.u64.wrap ((a : Int) + c) + 1) = ((Pl.hiW (Pl.add (Pl.st a b) (Pl.st c d)) : Nat) : Int) := by
  have := (Pl.plus_eq a b c d ha hb hc hd).2.1
  simp only [IntKind.wrap_u64, Pl.hiW_def, Pl.st_def] at h ⊢
  rw [← this (by omega)]
  omega
theorem plus_hi0 (a b c d : Nat) (ha : a < 18446744073709551616) (hb : b < 18446744073709551616) (hc : c < 18446744073709551616) (hd : d < 18446744073709551616) (h : (b : Int) ≤ IntKind.u64.wrap ((b : Int) + d)) :
    IntKind.u64.wrap ((a : Int) + c) = ((Pl.hiW (Pl.add (Pl.st a b) (Pl.st c d)) : Nat) : Int) := by
  have := (Pl.plus_eq a b c d ha hb hc hd).2.2
  simp only [IntKind.wrap_u64, Pl.hiW_def, Pl.st_def] at h ⊢
  rw [← this (by omega)]
  omega
theorem plus_lo (a b c d : Nat) (ha : a < 18446744073709551616) (hb : b < 18446744073709551616) (hc : c < 18446744073709551616) (hd : d < 18446744073709551616) :
    IntKind.u64.wrap ((b : Int) + d) = ((Pl.loW (Pl.add (Pl.st a b) (Pl.st c d)) : Nat) : Int) := by
  have := (Pl.plus_eq a b c d ha hb hc hd).1
  simp only [IntKind.wrap_u64, Pl.loW_def, Pl.st_def]
  rw [← this]
  omega

set_option maxHeartbeats 1000000 in
theorem plus_any (a b c d : Nat) (w : World) (ha : a < 18446744073709551616) (hb : b < 18446744073709551616) (hc : c < 18446744073709551616) (hd : d < 18446744073709551616) :
    Calls Tryd.prog 21 #[.agg #[.int .u64 a, .int .u64 b], .agg #[.int .u64 c, .int .u64 d]] w fun e w' => e = .returned (stV (Pl.add (Pl.st a b) (Pl.st c d))) ∧ Below w.heap.size w w' := by
  by_cases h : IntKind.u64.wrap ((b : Int) + d) < b
  · go_enter Tryd.func21, Tryd.ntmps21
    go_wp2
    go_returns
    exact ⟨ret_st (plus_hi1 a b c d ha hb hc hd h) (plus_lo a b c d ha hb hc hd), by go_grown⟩
  · go_enter Tryd.func21, Tryd.ntmps21
    go_wp2
    go_returns
    exact ⟨ret_st (plus_hi0 a b c d ha hb hc hd h) (plus_lo a b c d ha hb hc hd), by go_grown⟩

theorem times_hi (a b c d : Nat) :
    IntKind.u64.wrap ((Pl.mulHi b d : Nat) + IntKind.u64.wrap (IntKind.u64.wrap ((a : Int) * d) + IntKind.u64.wrap ((b : Int) * c))) = ((Pl.hiW (Pl.mul (Pl.st a b) (Pl.st c d)) : Nat) : Int) := by
  have := (Pl.times_eq a b c d).2
  simp only [IntKind.wrap_u64, Pl.hiW_def, Pl.st_def, Pl.mulHi_def]
  rw [← this, ← Int.natCast_mul, ← Int.natCast_mul]
  omega
theorem times_lo (a b c d : Nat) : ((Pl.mulLo b d : Nat) : Int) = ((Pl.loW (Pl.mul (Pl.st a b) (Pl.st c d)) : Nat) : Int) := by
  have := (Pl.times_eq a b c d).1
  simp only [Pl.loW_def, Pl.st_def, Pl.mulLo_def]
  rw [← this]

set_option maxHeartbeats 1000000 in
theorem times_any (a b c d : Nat) (w : World) (hb : b < 18446744073709551616) (hd : d < 18446744073709551616) :
    Calls Tryd.prog 22 #[.agg #[.int .u64 a, .int .u64 b], .agg #[.int .u64 c, .int .u64 d]] w fun e w' => e = .returned (stV (Pl.mul (Pl.st a b) (Pl.st c d))) ∧ Below w.heap.size w w' := by
  go_enter Tryd.func22, Tryd.ntmps22
  go_wp2_with fail
  refine (product_any _ _ _ hb hd).mono ?_
  rintro e w1 ⟨rfl, hb1⟩
  have c0 := hb1.cell (p := ⟨w.heap.size, 0, none⟩) (by simp; omega)
  have c1 := hb1.cell (p := ⟨w.heap.size, 1, none⟩) (by simp; omega)
  have c2 := hb1.cell (p := ⟨w.heap.size + 1, 0, none⟩) (by simp)
  have c3 := hb1.cell (p := ⟨w.heap.size + 1, 1, none⟩) (by simp)
  have hz := hb1.size
  have f2 := hb1.frozen (p := ⟨w.heap.size + 1 + 1, 0, none⟩) (by simp)
  have f3 := hb1.frozen (p := ⟨w.heap.size + 1 + 1, 1, none⟩) (by simp)
  have c4 := hb1.cell (p := ⟨w.heap.size + 1 + 1, 0, none⟩) (by simp)
  have c5 := hb1.cell (p := ⟨w.heap.size + 1 + 1, 1, none⟩) (by simp)
  simp [go_sem] at c0 c1 c2 c3 c4 c5 f2 f3 hz
  have z0 : w.heap.size < w1.heap.size := by omega
  have z1 : w.heap.size + 1 < w1.heap.size := by omega
  have z2 : w.heap.size + 1 + 1 < w1.heap.size := by omega
  have HB := Lib.hid hb1
  clear hb1
  go_wp2
  refine bodyPost_ret (v := .agg #[.int .u64 (IntKind.u64.wrap ((Pl.mulHi b d : Nat) + IntKind.u64.wrap (IntKind.u64.wrap ((a : Int) * d) + IntKind.u64.wrap ((b : Int) * c)))), .int .u64 (Pl.mulLo b d : Nat)]) (by simp [results, Tryd.results22, go_sem, c4, c5, z2]) rfl ?_
  refine ⟨ret_st (times_hi a b c d) (times_lo a b c d), ?_⟩
  have h1 : Below w.heap.size w w1 := ((((Below.refl _ _).alloc (Nat.le_refl _) _).alloc (by simp) _).alloc (by simp; omega) _).trans (HB.out.mono (by simp; omega))
  go_grown
end Go.Proofs.YtglfeoiakhnkgaaDoor
