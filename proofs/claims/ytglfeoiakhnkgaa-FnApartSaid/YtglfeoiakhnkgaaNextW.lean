/- Contracts of impl.Next; the laws FnApart and FnNextOdd as walks. -/
import Derived.Test.YtglfeoiakhnkgaaPcgA
namespace Go.Proofs.Ytglfeoiakhnkgaa
open Go.RowKit

set_option maxHeartbeats 400000 in
theorem zznext_any (hi lo : Nat) (w : World) (hl : lo < 18446744073709551616) :
    Calls Try.prog 30 #[.int .u64 hi, .int .u64 lo] w fun e w' =>
      e = .returned (.tuple #[.int .u64 (Pl.hiW (Pl.step (Pl.st hi lo)) : Nat), .int .u64 (Pl.loW (Pl.step (Pl.st hi lo)) : Nat)]) ∧ Below w.heap.size w w' := by
  go_enter Try.func30, Try.ntmps30
  go_wp2_with fail
  refine (next_any _ hi lo _ hl (Whole.new _ _ _)).mono ?_
  rintro e w1 ⟨rfl, _, hg⟩
  have HG := Lib.hid hg
  clear hg
  go_wp2
  go_ret2
  refine ⟨rfl, ?_⟩
  exact ((Below.refl _ _).alloc (Nat.le_refl _) _).grown HG.out (by simp) (fun k hk => by injection hk with hk; omega)

set_option maxHeartbeats 400000 in
theorem implnext_any (hi lo : Nat) (w : World) (hl : lo < 18446744073709551616) :
    Calls Try.prog 15 #[.int .u64 hi, .int .u64 lo] w fun e w' =>
      e = .returned (.tuple #[.int .u64 (Pl.hiW (Pl.step (Pl.st hi lo)) : Nat), .int .u64 (Pl.loW (Pl.step (Pl.st hi lo)) : Nat)]) ∧ Below w.heap.size w w' := by
  go_enter Try.func15, Try.ntmps15
  go_wp2_with fail
  refine (zznext_any hi lo _ hl).mono ?_
  rintro e w1 ⟨rfl, hg⟩
  have HG := Lib.hid hg
  clear hg
  go_wp2
  go_ret2
  exact ⟨rfl, HG.out⟩

theorem ne_u64 {x y : Nat} (h : ¬ x = y) : ((x : Int) != (y : Int)) = true := by simp; omega
theorem ne_u64' {x y : Nat} (h : x = y) : ((x : Int) != (y : Int)) = false := by simp; omega
theorem eq_u64 {x y : Nat} (h : x = y) : ((x : Int) == (y : Int)) = true := by simp; omega
theorem eq_u64' {x y : Nat} (h : ¬ x = y) : ((x : Int) == (y : Int)) = false := by simp; omega

/-- Behind a step from another state stands another state. -/
theorem fnApart_go (a b c d : Nat) (w : World) (hb : b < 18446744073709551616) (hd : d < 18446744073709551616) (hne : ((a : Int) == (c : Int)) = false ∨ ((a : Int) == (c : Int)) = true ∧ ((b : Int) == (d : Int)) = false)
    (hapart : Pl.hiW (Pl.step (Pl.st a b)) ≠ Pl.hiW (Pl.step (Pl.st c d)) ∨ Pl.hiW (Pl.step (Pl.st a b)) = Pl.hiW (Pl.step (Pl.st c d)) ∧ Pl.loW (Pl.step (Pl.st a b)) ≠ Pl.loW (Pl.step (Pl.st c d))) :
    Calls Try.prog 3 #[.int .u64 a, .int .u64 b, .int .u64 c, .int .u64 d] w fun e w' => e = .returned (.bool true) ∧ Below w.heap.size w w' := by
  rcases hne with h1 | ⟨h1, h2⟩ <;> rcases hapart with g1 | ⟨g1, g2⟩
  all_goals
    first
    | (have t1 := ne_u64 g1; clear g1)
    | (have t1 := ne_u64' g1; have t2 := ne_u64 g2; clear g1 g2)
    go_enter Try.func3, Try.ntmps3
    go_wp2_with fail
    refine (implnext_any a b _ hb).mono ?_
    rintro e w1 ⟨rfl, hg1⟩
    have HG := Lib.hid hg1
    clear hg1
    go_wp2_with fail
    refine (implnext_any c d _ hd).mono ?_
    rintro e w2 ⟨rfl, hg2⟩
    have HG2 := Lib.hid hg2
    clear hg2
    go_wp2
    go_ret
    exact ⟨rfl, HG.out.trans (HG2.out.mono HG.out.size)⟩

set_option maxHeartbeats 400000 in
theorem fnApart_same (a b : Nat) (w : World) :
    Calls Try.prog 3 #[.int .u64 a, .int .u64 b, .int .u64 a, .int .u64 b] w fun e w' => e = .returned (.bool true) ∧ Below w.heap.size w w' := by
  have h1 : ((a : Int) == (a : Int)) = true := eq_u64 rfl
  have h2 : ((b : Int) == (b : Int)) = true := eq_u64 rfl
  go_enter Try.func3, Try.ntmps3
  go_wp2
  go_ret
  exact ⟨rfl, Below.refl _ _⟩

theorem fnApart_true (a : Nat) (ha : a < 18446744073709551616) (b : Nat) (hb : b < 18446744073709551616) (c : Nat) (hc : c < 18446744073709551616) (d : Nat) (hd : d < 18446744073709551616) (w : World) :
    Calls Try.prog 3 #[.int .u64 a, .int .u64 b, .int .u64 c, .int .u64 d] w fun e w' => e = .returned (.bool true) ∧ Below w.heap.size w w' := by
  by_cases h : a = c ∧ b = d
  · obtain ⟨rfl, rfl⟩ := h
    exact fnApart_same a b w
  · refine fnApart_go a b c d w hb hd ?_ (Pl.apart a b c d ha hb hc hd h)
    by_cases h1 : a = c
    · exact .inr ⟨eq_u64 h1, eq_u64' fun h2 => h ⟨h1, h2⟩⟩
    · exact .inl (eq_u64' h1)
end Go.Proofs.Ytglfeoiakhnkgaa
