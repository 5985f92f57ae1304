/- The law FnStepSum as a walk. -/
import Derived.Test.YtglfeoiakhnkgaaSpecC
namespace Go.Proofs.Ytglfeoiakhnkgaa
open Go.RowKit

theorem bne_zero {n : Nat} (h : n ≠ 0) : ((n : Int) != 0) = true := by simp; omega
theorem bne_zero' {n : Nat} (h : n = 0) : ((n : Int) != 0) = false := by simp; omega

theorem field_hi (x y : Int) (w : World) : (Instr.field 27 (.agg #[.int .u64 x, .int .u64 y]) 0).run Try.prog w = .ok (.int .u64 x) w := by kernel_rfl

set_option maxHeartbeats 2000000 in
theorem fnStepSum_go (hi lo oh ol : Nat) (w : World) (hh : hi < 18446744073709551616) (hl : lo < 18446744073709551616) (hoh : oh < 18446744073709551616) (hol : ol < 18446744073709551616)
    (hz : ((Pl.hiW (Pl.step (Pl.st hi lo)) : Int) != 0) = true ∨ ((Pl.hiW (Pl.step (Pl.st hi lo)) : Int) != 0) = false ∧ (((Pl.loW (Pl.step (Pl.st hi lo)) : Int) != 0) = true ∨ ((Pl.loW (Pl.step (Pl.st hi lo)) : Int) != 0) = false ∧ (((hi : Int) != 0) = true ∨ ((hi : Int) != 0) = false ∧ ((lo : Int) != 0) = true))) :
    Calls Try.prog 7 #[.int .u64 hi, .int .u64 lo, .int .u64 oh, .int .u64 ol] w fun e w' => e = .returned (.bool true) ∧ Below w.heap.size w w' := by
  have hlt := Pl.st_lt hh hl
  have h1 := fun W => plus_any hi lo oh ol W hh hl hoh hol
  have h2 := fun W => implnext_s (Pl.add (Pl.st hi lo) (Pl.st oh ol)) W
  have h3 := fun W => times_any oh ol (Pl.hiW Pl.F) (Pl.loW Pl.F) W hol (Pl.loW_lt _)
  have h4 := fun W => plus_s (Pl.step (Pl.st hi lo)) (Pl.mul (Pl.st oh ol) Pl.F) W (Pl.step_lt _) (Pl.mul_lt _ _)
  rw [Pl.st_hl] at h3
  rw [← Pl.step_sum] at h4
  simp only [stV] at h1 h3 h4
  have H1 := Lib.hid h1
  have H2 := Lib.hid h2
  have H3 := Lib.hid h3
  have H4 := Lib.hid h4
  have HL := Lib.hid (plus_lo hi lo oh ol hh hl hoh hol)
  clear h1 h2 h3 h4 hlt
  have hfld := fun W => field_hi (Pl.hiW (Pl.add (Pl.st hi lo) (Pl.st oh ol)) : Nat) (Pl.loW (Pl.add (Pl.st hi lo) (Pl.st oh ol)) : Nat) W
  rcases hz with z1 | ⟨z1, z2 | ⟨z2, z3 | ⟨z3, z4⟩⟩⟩
  all_goals
    go_enter Try.func7, Try.ntmps7
    go_wp2_with fail
    refine (implnext_any hi lo _ hl).mono ?_
    rintro e w1 ⟨rfl, hg1⟩
    have HG := Lib.hid hg1
    clear hg1
    go_wp2_with fail
    refine (H1.out _).mono ?_
    rintro e w2 ⟨rfl, hg2⟩
    have HG2 := Lib.hid (HG.out.trans (hg2.mono HG.out.size))
    clear hg2 HG
    go_wp2_with fail
    rw [HL.out]
    refine (H2.out _).mono ?_
    rintro e w3 ⟨rfl, hg3⟩
    have HG3 := Lib.hid (HG2.out.trans (hg3.mono HG2.out.size))
    clear hg3 HG2
    go_wp2_with fail
    refine (factor_any _).mono ?_
    rintro e w4 ⟨rfl, hg4⟩
    have HG4 := Lib.hid (HG3.out.trans (hg4.mono HG3.out.size))
    clear hg4 HG3
    go_wp2_with fail
    refine (H3.out _).mono ?_
    rintro e w5 ⟨rfl, hg5⟩
    have HG5 := Lib.hid (HG4.out.trans (hg5.mono HG4.out.size))
    clear hg5 HG4
    go_wp2_with fail
    refine (H4.out _).mono ?_
    rintro e w6 ⟨rfl, hg6⟩
    have HG6 := Lib.hid (HG5.out.trans (hg6.mono HG5.out.size))
    clear hg6 HG5
    go_wp2
    go_ret
    exact ⟨rfl, HG6.out⟩

theorem fnStepSum_true (hi : Nat) (hh : hi < 18446744073709551616) (lo : Nat) (hl : lo < 18446744073709551616) (oh : Nat) (hoh : oh < 18446744073709551616) (ol : Nat) (hol : ol < 18446744073709551616) (w : World) :
    Calls Try.prog 7 #[.int .u64 hi, .int .u64 lo, .int .u64 oh, .int .u64 ol] w fun e w' => e = .returned (.bool true) ∧ Below w.heap.size w w' := by
  refine fnStepSum_go hi lo oh ol w hh hl hoh hol ?_
  by_cases h : Pl.hiW (Pl.step (Pl.st hi lo)) = 0
  · refine .inr ⟨bne_zero' h, ?_⟩
    by_cases g : Pl.loW (Pl.step (Pl.st hi lo)) = 0
    · refine .inr ⟨bne_zero' g, ?_⟩
      by_cases k : hi = 0
      · refine .inr ⟨bne_zero' k, bne_zero fun k' => ?_⟩
        subst k k'
        exact Pl.step_zero h g
      · exact .inl (bne_zero k)
    · exact .inl (bne_zero g)
  · exact .inl (bne_zero h)
end Go.Proofs.Ytglfeoiakhnkgaa
