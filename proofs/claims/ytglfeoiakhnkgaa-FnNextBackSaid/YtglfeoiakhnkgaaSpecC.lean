/- Contracts of the reference: opposite; the laws FnNext, FnStepSum as walks. -/
import Derived.Test.YtglfeoiakhnkgaaSpecB
import Derived.Test.YtglfeoiakhnkgaaNextW
import Derived.Laws.StructEq
namespace Go.Proofs.Ytglfeoiakhnkgaa
open Go.RowKit

theorem not_u64 (a : Nat) (ha : a < 18446744073709551616) : bits .xor .u64 IntKind.u64.max (a : Int) = ((18446744073709551615 - a : Nat) : Int) := by
  show IntKind.u64.wrap ((BitVec.ofInt 64 IntKind.u64.max ^^^ BitVec.ofInt 64 (a : Int)).toNat : Int) = _
  have h1 : BitVec.ofInt 64 IntKind.u64.max = BitVec.allOnes 64 := by decide
  rw [h1, BitVec.allOnes_xor, BitVec.toNat_not, ofInt_u64 a (by omega)]
  simp [IntKind.wrap, IntKind.bits, IntKind.signed]
  omega

set_option maxHeartbeats 1000000 in
theorem opposite_any (s : Nat) (w : World) (hs : s < 340282366920938463463374607431768211456) :
    Calls Try.prog 32 #[stV s] w fun e w' => e = .returned (stV (Pl.opp s)) ∧ Below w.heap.size w w' := by
  have hsg : IntKind.u64.signed = false := rfl
  have hl := Pl.loW_lt s
  have hh := Pl.hiW_lt hs
  have hp := fun W => plus_any (18446744073709551615 - Pl.hiW s) (18446744073709551615 - Pl.loW s) 0 1 W (by omega) (by omega) (by omega) (by omega)
  rw [← Pl.opp_words s hs] at hp
  have HP := Lib.hid hp
  clear hp
  go_enter Try.func32, Try.ntmps32
  go_wp2_with fail
  rw [not_u64 _ hh, not_u64 _ hl]
  refine (HP.out _).mono ?_
  rintro e w1 ⟨rfl, hb1⟩
  have hz := hb1.size
  have f2 := hb1.frozen (p := ⟨w.heap.size + 1, 0, none⟩) (by simp)
  have f3 := hb1.frozen (p := ⟨w.heap.size + 1, 1, none⟩) (by simp)
  have c4 := hb1.cell (p := ⟨w.heap.size + 1, 0, none⟩) (by simp)
  have c5 := hb1.cell (p := ⟨w.heap.size + 1, 1, none⟩) (by simp)
  simp [go_sem] at c4 c5 f2 f3 hz
  have HB := Lib.hid hb1
  clear hb1
  go_wp2
  refine bodyPost_ret (v := stV (Pl.opp s)) (by simp [results, Try.results32, go_sem, c4, c5]) rfl ?_
  refine ⟨rfl, ?_⟩
  have h1 : Below w.heap.size w w1 := (((Below.refl _ _).alloc (Nat.le_refl _) _).alloc (by simp) _).trans (HB.out.mono (by simp; omega))
  exact (h1.setCell (by simp) _).setCell (by simp) _

set_option maxHeartbeats 1000000 in
theorem fnNext_true (hi : Nat) (_hh : hi < 18446744073709551616) (lo : Nat) (hl : lo < 18446744073709551616) (w : World) :
    Calls Try.prog 4 #[.int .u64 hi, .int .u64 lo] w fun e w' => e = .returned (.bool true) ∧ Below w.heap.size w w' := by
  have hst := step_any (Pl.st hi lo)
  simp only [stV, Pl.hiW_st hl, Pl.loW_st hl] at hst
  have HST := Lib.hid hst
  clear hst
  go_enter Try.func4, Try.ntmps4
  go_wp2_with fail
  refine (implnext_any hi lo _ hl).mono ?_
  rintro e w1 ⟨rfl, hg1⟩
  have HG := Lib.hid hg1
  clear hg1
  go_wp2_with fail
  refine (HST.out _).mono ?_
  rintro e w2 ⟨rfl, hg2⟩
  have HG2 := Lib.hid hg2
  clear hg2
  go_wp2
  go_ret
  exact ⟨rfl, HG.out.trans (HG2.out.mono HG.out.size)⟩
end Go.Proofs.Ytglfeoiakhnkgaa
