/- Contracts: bits.Mul64, bits.Add64, (*PCG).next: a step is the recurrence of 128 bits. -/
import Derived.Test.YtglfeoiakhnkgaaDoorProg
import Derived.Handy
import Derived.WalkSpells
import Derived.WalkLawsBesides
import Derived.Deep.QuietTactic
import Derived.BigQuiet
import Derived.Lib.Mul64
import Derived.Lib.Hide
import Derived.Test.YtglfeoiakhnkgaaDoorPlain
import Derived.Test.YtglfeoiakhnkgaaDoorMem
namespace Go.Proofs.YtglfeoiakhnkgaaDoor
open Go.RowKit

namespace M
theorem mask (a : Nat) (ha : a < 18446744073709551616) : bits .and .u64 (a : Int) 4294967295 = ((a % 4294967296 : Nat) : Int) := by
  have h := bits_and_u64_nat a 4294967295 ha (by omega)
  have e : a &&& 4294967295 = a % 4294967296 := Nat.and_two_pow_sub_one_eq_mod a 32
  rw [e] at h
  exact h
theorem div (a : Nat) : (a : Int) / 4294967296 = ((a / 4294967296 : Nat) : Int) := by omega
theorem mul (a b : Nat) : (a : Int) * (b : Int) = ((a * b : Nat) : Int) := (Int.natCast_mul a b).symm
theorem add (a b : Nat) : (a : Int) + (b : Int) = ((a + b : Nat) : Int) := (Int.natCast_add a b).symm
theorem wrapN (a : Nat) (ha : a < 18446744073709551616) : IntKind.u64.wrap (a : Int) = (a : Int) := by rw [IntKind.wrap_u64]; omega
theorem wrapM (a : Nat) : IntKind.u64.wrap (a : Int) = ((a % 18446744073709551616 : Nat) : Int) := by rw [IntKind.wrap_u64]; omega
end M

set_option maxHeartbeats 1000000 in
theorem mul64_any (x y : Nat) (hx : x < 18446744073709551616) (hy : y < 18446744073709551616) (w : World) :
    Calls Tryd.prog 29 #[.int .u64 x, .int .u64 y] w fun e w' => e = .returned (.tuple #[.int .u64 (Pl.mulHi x y : Nat), .int .u64 (Pl.mulLo x y : Nat)]) ∧ w = w' := by
  obtain ⟨bd, bt, bw, hhi⟩ := Lib.mul64_hi x y hx hy
  have ba := Lib.half_mul_le (a := x / 4294967296) (b := y / 4294967296) (by omega) (by omega)
  have bb := Lib.half_mul_le (a := x / 4294967296) (b := y % 4294967296) (by omega) (by omega)
  have bc := Lib.half_mul_le (a := x % 4294967296) (b := y / 4294967296) (by omega) (by omega)
  have ba' : x / 4294967296 * (y / 4294967296) < 18446744073709551616 := by omega
  have bb' : x / 4294967296 * (y % 4294967296) < 18446744073709551616 := by omega
  have bc' : x % 4294967296 * (y / 4294967296) < 18446744073709551616 := by omega
  have bh1 : x / 4294967296 * (y / 4294967296) + (x / 4294967296 * (y % 4294967296) + x % 4294967296 * (y % 4294967296) / 4294967296) / 4294967296 < 18446744073709551616 := by omega
  have bh : x / 4294967296 * (y / 4294967296) + (x / 4294967296 * (y % 4294967296) + x % 4294967296 * (y % 4294967296) / 4294967296) / 4294967296 + ((x / 4294967296 * (y % 4294967296) + x % 4294967296 * (y % 4294967296) / 4294967296) % 4294967296 + x % 4294967296 * (y / 4294967296)) / 4294967296 < 18446744073709551616 := by omega
  go_enter Tryd.func29, Tryd.ntmps29
  go_wp2
  simp only [M.mask x hx, M.mask y hy, M.div, M.mul, M.add, M.wrapN _ bd, M.wrapN _ bb', M.wrapN _ bt, M.mask _ bt, M.wrapN _ bc', M.wrapN _ bw, M.wrapN _ ba', M.wrapN _ bh1, M.wrapN _ bh, M.wrapM (x * y)]
  rw [hhi, ← Pl.mulHi_def, ← Pl.mulLo_def]
  go_ret2
  exact ⟨rfl, rfl⟩

theorem add64_run (x y c : Int) (hx : 0 ≤ x) (hy : 0 ≤ y) (hc0 : 0 ≤ c) (hc : c ≤ 1) (w : World) :
    (callFunc 30 #[.int .u64 x, .int .u64 y, .int .u64 c]).run Tryd.prog w = .ok (.value (.tuple #[.int .u64 (Pl.addLo x y c), .int .u64 (Pl.addHi x y c)])) w := by
  rw [run_callFunc_extern Tryd.func30 (by kernel_rfl) (by kernel_rfl) (by kernel_rfl) (e := add64Entry) (by kernel_rfl), run_add64 x y c hx hy hc0 hc, ← Pl.addLo_def, ← Pl.addHi_def]
  rfl

theorem wrap_nonneg (n : Int) : 0 ≤ IntKind.u64.wrap n := by rw [IntKind.wrap_u64]; omega

/-- The words that a step leaves, as the walk spells them. -/
theorem next_lo (hi lo : Nat) : Pl.addLo (Pl.mulLo lo 4865540595714422341 : Nat) 1442695040888963407 0 = ((Pl.loW (Pl.step (Pl.st hi lo)) : Nat) : Int) := by
  have h := (Pl.next_eq hi lo).1
  simp only [Pl.addLo_def, Pl.mulLo_def, Pl.loW_def, Pl.st_def]
  omega
theorem next_hi_aux (a b c : Nat) : Pl.addLo (IntKind.u64.wrap (((c / 18446744073709551616 : Nat) : Int) + IntKind.u64.wrap (IntKind.u64.wrap (a : Int) + IntKind.u64.wrap (b : Int)))) 6364136223846793005 (Pl.addHi ((c % 18446744073709551616 : Nat) : Int) 1442695040888963407 0) =
    ((((c / 18446744073709551616 + (a % 18446744073709551616 + b % 18446744073709551616) % 18446744073709551616) % 18446744073709551616 + 6364136223846793005 + (c % 18446744073709551616 + 1442695040888963407) / 18446744073709551616) % 18446744073709551616 : Nat) : Int) := by
  simp only [IntKind.wrap_u64, Pl.addLo_def, Pl.addHi_def]
  omega
theorem next_hi (hi lo : Nat) : Pl.addLo (IntKind.u64.wrap ((Pl.mulHi lo 4865540595714422341 : Nat) + IntKind.u64.wrap (IntKind.u64.wrap ((hi : Int) * 4865540595714422341) + IntKind.u64.wrap ((lo : Int) * 2549297995355413924)))) 6364136223846793005 (Pl.addHi (Pl.mulLo lo 4865540595714422341 : Nat) 1442695040888963407 0) = ((Pl.hiW (Pl.step (Pl.st hi lo)) : Nat) : Int) := by
  have h := (Pl.next_eq hi lo).2
  simp only [Pl.hiW_def, Pl.st_def]
  rw [← h]
  have k := next_hi_aux (hi * 4865540595714422341) (lo * 2549297995355413924) (lo * 4865540595714422341)
  rw [← k, Int.natCast_mul, Int.natCast_mul, ← Pl.mulHi_def, ← Pl.mulLo_def]
  rfl

set_option maxHeartbeats 1000000 in
theorem next_any (b hi lo : Nat) (w : World) (hl : lo < 18446744073709551616)
    (hb : Whole w b 51 #[.int .u64 hi, .int .u64 lo]) :
    Calls Tryd.prog 26 #[.pointer (some ⟨b, 0, none⟩)] w fun e w' =>
      e = .returned (.tuple #[.int .u64 (Pl.hiW (Pl.step (Pl.st hi lo)) : Nat), .int .u64 (Pl.loW (Pl.step (Pl.st hi lo)) : Nat)]) ∧
      Whole w' b 51 #[.int .u64 (Pl.hiW (Pl.step (Pl.st hi lo)) : Nat), .int .u64 (Pl.loW (Pl.step (Pl.st hi lo)) : Nat)] ∧ w.grownBy w' (some b) := by
  have h0 := hb.cell 0
  have h1 := hb.cell 1
  have f0 := hb.free 0
  have f1 := hb.free 1
  have HB := Lib.hid hb
  clear hb
  simp at h0 h1
  have a1 := fun W => add64_run (Pl.mulLo lo 4865540595714422341 : Nat) 1442695040888963407 0 (by omega) (by omega) (by omega) (by omega) W
  have hc : 0 ≤ Pl.addHi (Pl.mulLo lo 4865540595714422341 : Nat) 1442695040888963407 0 ∧ Pl.addHi (Pl.mulLo lo 4865540595714422341 : Nat) 1442695040888963407 0 ≤ 1 := by
    have := Pl.mulLo_lt lo 4865540595714422341
    simp only [Pl.addHi_def]
    omega
  have a2 := fun W => add64_run (IntKind.u64.wrap ((Pl.mulHi lo 4865540595714422341 : Nat) + IntKind.u64.wrap (IntKind.u64.wrap ((hi : Int) * 4865540595714422341) + IntKind.u64.wrap ((lo : Int) * 2549297995355413924)))) 6364136223846793005 (Pl.addHi (Pl.mulLo lo 4865540595714422341 : Nat) 1442695040888963407 0) (wrap_nonneg _) (by omega) hc.1 hc.2 W
  clear hc
  go_enter Tryd.func26, Tryd.ntmps26
  go_wp2_with (go_at_call 29; refine (mul64_any _ 4865540595714422341 hl (by omega) _).mono ?_; rintro e w' ⟨rfl, rfl⟩)
  go_quiet (fail)
  go_wp2
  rw [next_lo hi lo, next_hi hi lo]
  go_ret2
  refine ⟨rfl, ?_, ?_⟩
  · exact ((HB.out.drewN nq).put 1 _).put 0 _
  · exact grow_put (g := b) (p := ⟨b, 0, none⟩) (grow_put (g := b) (p := ⟨b, 1, none⟩) (grow_drewN (grow_refl _ _) nq) (.inl rfl) _) (.inl rfl) _
end Go.Proofs.YtglfeoiakhnkgaaDoor
