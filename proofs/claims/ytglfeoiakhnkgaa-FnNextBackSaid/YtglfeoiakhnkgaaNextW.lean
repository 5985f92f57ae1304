/- Contracts of impl.Next; the laws FnApart and FnNextOdd as walks. -/
import Derived.Test.YtglfeoiakhnkgaaPcgA
namespace Go.Proofs.Ytglfeoiakhnkgaa
open Go.RowKit
set_option maxHeartbeats 400000 in
theorem zznext_any (hi lo : Nat) (w : World) (hl : lo < 18446744073709551616) :
    Calls Try.prog 30 #[.int .u64 hi, .int .u64 lo] w fun e w' =>
      e = .returned (.tuple #[.int .u64 (Pl.hiW (Pl.step (Pl.st hi lo)) : Nat), .int .u64 (Pl.loW (Pl.step (Pl.st hi lo)) : Nat)]) ∧ Below w.heap.size w w' := by
  go_enter Try.func30, Try.ntmps30
  go_wp2_with fail
  refine (next_any _ hi lo _ hl (Whole.new _ _ _)).mono ?_
  rintro e w1 ⟨rfl, _, hg⟩
  have HG := Lib.hid hg
  clear hg
  go_wp2
  go_ret2
  refine ⟨rfl, ?_⟩
  exact ((Below.refl _ _).alloc (Nat.le_refl _) _).grown HG.out (by simp) (fun k hk => by injection hk with hk; omega)

set_option maxHeartbeats 400000 in
theorem implnext_any (hi lo : Nat) (w : World) (hl : lo < 18446744073709551616) :
    Calls Try.prog 15 #[.int .u64 hi, .int .u64 lo] w fun e w' =>
      e = .returned (.tuple #[.int .u64 (Pl.hiW (Pl.step (Pl.st hi lo)) : Nat), .int .u64 (Pl.loW (Pl.step (Pl.st hi lo)) : Nat)]) ∧ Below w.heap.size w w' := by
  go_enter Try.func15, Try.ntmps15
  go_wp2_with fail
  refine (zznext_any hi lo _ hl).mono ?_
  rintro e w1 ⟨rfl, hg⟩
  have HG := Lib.hid hg
  clear hg
  go_wp2
  go_ret2
  exact ⟨rfl, HG.out⟩

theorem ne_u64 {x y : Nat} (h : ¬ x = y) : ((x : Int) != (y : Int)) = true := by simp; omega
theorem ne_u64' {x y : Nat} (h : x = y) : ((x : Int) != (y : Int)) = false := by simp; omega
theorem eq_u64 {x y : Nat} (h : x = y) : ((x : Int) == (y : Int)) = true := by simp; omega
theorem eq_u64' {x y : Nat} (h : ¬ x = y) : ((x : Int) == (y : Int)) = false := by simp; omega

/-- Behind a step from another state stands another state. -/
theorem fnApart_go (a b c d : Nat) (w : World) (hb : b < 18446744073709551616) (hd : d < 18446744073709551616) (hne : ((a : Int) == (c : Int)) = false ∨ ((a : Int) == (c : Int)) = true ∧ ((b : Int) == (d : Int)) = false)
    (hapart : Pl.hiW (Pl.step (Pl.st a b)) ≠ Pl.hiW (Pl.step (Pl.st c d)) ∨ Pl.hiW (Pl.step (Pl.st a b)) = Pl.hiW (Pl.step (Pl.st c d)) ∧ Pl.loW (Pl.step (Pl.st a b)) ≠ Pl.loW (Pl.step (Pl.st c d))) :
    Calls Try.prog 3 #[.int .u64 a, .int .u64 b, .int .u64 c, .int .u64 d] w fun e w' => e = .returned (.bool true) ∧ Below w.heap.size w w' := by
  rcases hne with h1 | ⟨h1, h2⟩ <;> rcases hapart with g1 | ⟨g1, g2⟩
  all_goals
    first
    | (have t1 := ne_u64 g1; clear g1)
    | (have t1 := ne_u64' g1; have t2 := ne_u64 g2; clear g1 g2)
    go_enter Try.func3, Try.ntmps3
    go_wp2_with fail
    refine (implnext_any a b _ hb).mono ?_
    rintro e w1 ⟨rfl, hg1⟩
    have HG := Lib.hid hg1
    clear hg1
    go_wp2_with fail
    refine (implnext_any c d _ hd).mono ?_
    rintro e w2 ⟨rfl, hg2⟩
    have HG2 := Lib.hid hg2
    clear hg2
    go_wp2
    go_ret
    exact ⟨rfl, HG.out.trans (HG2.out.mono HG.out.size)⟩

set_option maxHeartbeats 400000 in
theorem fnApart_same (a b : Nat) (w : World) :
    Calls Try.prog 3 #[.int .u64 a, .int .u64 b, .int .u64 a, .int .u64 b] w fun e w' => e = .returned (.bool true) ∧ Below w.heap.size w w' := by
  have h1 : ((a : Int) == (a : Int)) = true := eq_u64 rfl
  have h2 : ((b : Int) == (b : Int)) = true := eq_u64 rfl
  go_enter Try.func3, Try.ntmps3
  go_wp2
  go_ret
  exact ⟨rfl, Below.refl _ _⟩

theorem fnApart_true (a : Nat) (ha : a < 18446744073709551616) (b : Nat) (hb : b < 18446744073709551616) (c : Nat) (hc : c < 18446744073709551616) (d : Nat) (hd : d < 18446744073709551616) (w : World) :
    Calls Try.prog 3 #[.int .u64 a, .int .u64 b, .int .u64 c, .int .u64 d] w fun e w' => e = .returned (.bool true) ∧ Below w.heap.size w w' := by
  by_cases h : a = c ∧ b = d
  · obtain ⟨rfl, rfl⟩ := h
    exact fnApart_same a b w
  · refine fnApart_go a b c d w hb hd ?_ (Pl.apart a b c d ha hb hc hd h)
    by_cases h1 : a = c
    · exact .inr ⟨eq_u64 h1, eq_u64' fun h2 => h ⟨h1, h2⟩⟩
    · exact .inl (eq_u64' h1)

theorem implnext_s (s : Nat) (w : World) :
    Calls Try.prog 15 #[.int .u64 (Pl.hiW s : Nat), .int .u64 (Pl.loW s : Nat)] w fun e w' =>
      e = .returned (.tuple #[.int .u64 (Pl.hiW (Pl.step s) : Nat), .int .u64 (Pl.loW (Pl.step s) : Nat)]) ∧ Below w.heap.size w w' := by
  have h := implnext_any (Pl.hiW s) (Pl.loW s) w (Pl.loW_lt s)
  rw [Pl.st_hl] at h
  exact h

set_option maxHeartbeats 1000000 in
theorem fnNextOdd_true (hi : Nat) (_hh : hi < 18446744073709551616) (lo : Nat) (hl : lo < 18446744073709551616) (w : World) :
    Calls Try.prog 6 #[.int .u64 hi, .int .u64 lo] w fun e w' => e = .returned (.bool true) ∧ Below w.heap.size w w' := by
  have t1 : (((Pl.loW (Pl.step (Pl.st hi lo)) : Nat) : Int) % 2 != (lo : Int) % 2) = true := by have := Pl.odd_first hi lo; rw [Pl.steps_one] at this; simp; omega
  have t2 : (((Pl.loW (Pl.steps 4 (Pl.st hi lo)) : Nat) : Int) % 4 == (lo : Int) % 4) = true := by have := Pl.odd_fourth hi lo; simp; omega
  have T1 := Lib.hid t1
  have T2 := Lib.hid t2
  clear t1 t2
  go_enter Try.func6, Try.ntmps6
  go_wp2_with fail
  refine (implnext_any hi lo _ hl).mono ?_
  rintro e w1 ⟨rfl, hg1⟩
  have HG := Lib.hid hg1
  clear hg1
  go_wp2_with fail
  go_loopw [5, 6, 15] (fun a b i wr => ∃ k : Nat, k ≤ 3 ∧ a = .int .u64 (Pl.hiW (Pl.steps (k + 1) (Pl.st hi lo)) : Nat) ∧ b = .int .u64 (Pl.loW (Pl.steps (k + 1) (Pl.st hi lo)) : Nat) ∧ i = .int .i64 k ∧ Below w.heap.size w wr)
    (fun _ _ i _ => 3 - (intOf i).toNat)
  case atStart => exact ⟨0, by omega, by rw [Pl.steps_one], by rw [Pl.steps_one], rfl, HG.out⟩
  case round =>
    obtain ⟨k, hk, rfl, rfl, rfl, hb⟩ := hrel
    have HB := Lib.hid hb
    clear hb HG
    by_cases hlt : k < 3
    · go_wp2_with fail
      refine (implnext_s _ _).mono ?_
      rintro e w2 ⟨rfl, hg2⟩
      have HG2 := Lib.hid hg2
      clear hg2
      go_wp2
      go_roundw
      case rel => exact ⟨k + 1, by omega, by rw [Pl.steps_succ (k + 1)], by rw [Pl.steps_succ (k + 1)], by go_num, HB.out.trans (HG2.out.mono HB.out.size)⟩
      case measure => simp [intOf]; omega
    · obtain rfl : k = 3 := by omega
      have t1 := T1.out
      have t2 := T2.out
      clear T1 T2
      go_wp2
      go_ret
      exact ⟨rfl, HB.out⟩
end Go.Proofs.Ytglfeoiakhnkgaa
