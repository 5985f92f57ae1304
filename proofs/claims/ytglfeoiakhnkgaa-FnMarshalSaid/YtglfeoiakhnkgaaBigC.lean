/- The law FnMarshal as a walk. -/
import Derived.Test.YtglfeoiakhnkgaaBigB
namespace Go.Proofs.Ytglfeoiakhnkgaa
open Go.RowKit
attribute [local go_sem ↓] Go.wp_at_zero Go.wp_at_succ

theorem keep_conv {W W' : World} {A : Option Addr} {c : Nat} {ys : List Int} (hb : Below W.heap.size W W')
    (h : BSl W A 20 ys ∧ (convert 45 9 (.slice A 20 c)).run Try.prog W = .ok (.string (strOfNums ys)) W) (hn : A = none → 20 = 0) :
    BSl W' A 20 ys ∧ (convert 45 9 (.slice A 20 c)).run Try.prog W' = .ok (.string (strOfNums ys)) W' :=
  ⟨h.1.later hb, conv_bsl (h.1.later hb) hn c⟩

set_option maxHeartbeats 1000000 in
theorem fnMarshal_true (hi : Nat) (hh : hi < 18446744073709551616) (lo : Nat) (hl : lo < 18446744073709551616) (k : Nat) (hk : k < 256) (w : World) :
    Calls Try.prog 13 #[.int .u64 hi, .int .u64 lo, .int .u8 k] w fun e w' => e = .returned (.bool true) ∧ Below w.heap.size w w' := by
  have hj := fun W => jump_any (Pl.st hi lo) k W (Pl.st_lt hh hl) (by omega)
  have e1 : stV (Pl.st hi lo) = .agg #[.int .u64 hi, .int .u64 lo] := by rw [stV, Pl.hiW_st hl, Pl.loW_st hl]
  rw [e1] at hj
  have HJ := Lib.hid hj
  clear hj e1
  go_enter Try.func13, Try.ntmps13
  go_wp2_with fail
  refine (marshal_any hi lo k _ (by omega) hh hl).mono ?_
  rintro e w1 ⟨A1, c1, rfl, hn1, hs1, hb1⟩
  have v1 := conv_bsl (w := w1.drew) hs1 hn1 c1
  have HB1 := Lib.hid hb1
  clear hb1
  go_wp2_with fail
  have hwk : IntKind.u64.wrap (k : Int) = (k : Int) := M.wrapN k (by omega)
  go_region_held_law (fun w' => BSl w' A1 20 (Pl.wr (Pl.steps k (Pl.st hi lo))) ∧ (convert 45 9 (.slice A1 20 c1)).run Try.prog w' = .ok (.string (strOfNums (Pl.wr (Pl.steps k (Pl.st hi lo))))) w')
    (first
      | (exact ⟨hs1, v1⟩)
      | (assumption)
      | (exact keep_conv (by assumption) (by assumption) hn1))
    (first
      | (go_at_call 21; refine (HJ.out _).mono ?_; rintro e w2 ⟨rfl, hb2⟩)
      | (go_at_call 28; refine (written_any (Pl.steps k (Pl.st hi lo)) _).mono ?_; rintro e w3 ⟨v3, rfl, hown3, hb3⟩; obtain ⟨A3, c3, rfl, hs3, hn3⟩ := bsl_of_own hown3; have u3 := conv_bsl hs3 hn3 c3))
  have HB3 := Lib.hid (below_next (below_next (below_drew HB1.out) hb2) hb3)
  clear hwk hb2 hb3 hown3 hs3 hn3 u3 v1 hs1 hn1
  go_wp2
  go_ret
  exact ⟨rfl, HB3.out⟩
end Go.Proofs.Ytglfeoiakhnkgaa
