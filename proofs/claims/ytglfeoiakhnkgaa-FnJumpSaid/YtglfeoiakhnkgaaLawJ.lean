/- The law FnJump as a walk. -/
import Derived.Test.YtglfeoiakhnkgaaWordD
import Derived.Test.YtglfeoiakhnkgaaJump
import Derived.Deep.RegionHeld3
namespace Go.Proofs.Ytglfeoiakhnkgaa
open Go.RowKit

theorem Sl.drop {w : World} {g o n a : Nat} {xs : List Nat} (h : Sl w (some ⟨g, o, none⟩) n xs) : Sl w (some ⟨g, o + a, none⟩) (n - a) (xs.drop a) := by
  refine ⟨by rw [List.length_drop, h.1], fun h0 => ?_⟩
  obtain ⟨g', o', e, hc⟩ := h.2 (by omega)
  injection e with e
  injection e with e1 e2
  subst e1 e2
  refine ⟨g, o + a, rfl, fun i hi => ?_⟩
  rw [Nat.add_assoc, hc (a + i) (by omega), List.getElem?_drop]

theorem held2_drewN {W : World} {p q : Value} {b0 k : Nat} (h : W.cell? ⟨b0, 0, none⟩ = some p ∧ W.cell? ⟨b0, 1, none⟩ = some q) : (W.drewN k).cell? ⟨b0, 0, none⟩ = some p ∧ (W.drewN k).cell? ⟨b0, 1, none⟩ = some q := h

set_option maxHeartbeats 2000000 in
theorem fnJump_go (hi lo k p a b m : Nat) (w : World) (hh : hi < 18446744073709551616) (hl : lo < 18446744073709551616) (hb0 : 1 ≤ b) (hmb : m - a = b) (_ham : a < m) (hm : m ≤ 4096)
    (va : (k : Int) % 301 = (a : Int)) (vb : (1 : Int) + (p : Int) % 100 = (b : Int)) (vm : (a : Int) + (b : Int) = (m : Int)) :
    Calls Try.prog 8 #[.int .u64 hi, .int .u64 lo, .int .u16 k, .int .u8 p] w fun e w' => e = .returned (.bool true) ∧ Below w.heap.size w w' := by
  have e0 : ((m : Int) == (m : Int)) = true := by simp
  have hj := fun W => jump_any (Pl.st hi lo) a W (Pl.st_lt hh hl) (by omega)
  have e1 : stV (Pl.st hi lo) = .agg #[.int .u64 hi, .int .u64 lo] := by rw [stV, Pl.hiW_st hl, Pl.loW_st hl]
  rw [e1] at hj
  have HJ := Lib.hid hj
  have HMB := Lib.hid hmb
  clear hj e1 hmb
  have hw := fun W => words_any (Pl.hiW (Pl.steps a (Pl.st hi lo))) (Pl.loW (Pl.steps a (Pl.st hi lo))) b W (by omega) (Pl.loW_lt _)
  simp only [Pl.st_hl] at hw
  have HW := Lib.hid hw
  clear hw
  go_enter Try.func8, Try.ntmps8
  go_wp2_with fail
  refine (HJ.out _).mono ?_
  rintro e w1 ⟨rfl, hb1⟩
  have HB := Lib.hid hb1
  clear hb1
  go_wp2_with fail
  refine (words_any hi lo m _ hm hl).mono ?_
  rintro e w2 ⟨A', c', rfl, hc', hs, hb⟩
  obtain ⟨g, o, rfl, _⟩ := hs.2 (by omega)
  have HS2 := Lib.hid hs
  have HB2 := Lib.hid hb
  have c0 : w2.cell? ⟨w1.heap.size, 0, none⟩ = some (.int .u64 (Pl.hiW (Pl.steps a (Pl.st hi lo)) : Nat)) := cell_later hb (by simp [go_sem])
  have c1 : w2.cell? ⟨w1.heap.size, 1, none⟩ = some (.int .u64 (Pl.loW (Pl.steps a (Pl.st hi lo)) : Nat)) := cell_later hb (by simp [go_sem])
  have hs4 := hs.drop (a := a)
  rw [HMB.out, show m = a + b by omega, tws_drop] at hs4
  have HS4 := Lib.hid hs4
  clear hs hb hs4
  have b1 : (0 : Int) ≤ (a : Int) := by omega
  have b2 : (a : Int) ≤ (m : Int) := by omega
  have b3 : ¬ c' = a := by omega
  have hbw : b ≤ 9223372036854775807 := by omega
  go_wp2_with fail
  have hwr : IntKind.i64.wrap (m : Int) = (m : Int) := IntWalk.i64_in _ (by omega)
  go_region_held3 (fun w' => w'.cell? ⟨w1.heap.size, 0, none⟩ = some (.int .u64 (Pl.hiW (Pl.steps a (Pl.st hi lo)) : Nat)) ∧ w'.cell? ⟨w1.heap.size, 1, none⟩ = some (.int .u64 (Pl.loW (Pl.steps a (Pl.st hi lo)) : Nat)))
    (first
      | (exact ⟨c0, c1⟩)
      | (exact held2 (by assumption) (by assumption))
      | (exact held2_drewN (by assumption)))
    (first
      | (go_at_call 22; refine (HW.out _).mono ?_; rintro e w3 ⟨A3, c3, rfl, hc3, hs3, hb3⟩)
      | (go_at_call 23; rw [HMB.out]; refine (same_any A3 _ b c3 _ (tws (Pl.steps a (Pl.st hi lo)) b) _ hbw hs3 (Sl.later (w := w2.drew) HS4.out hb3)).mono ?_; rintro e w4 ⟨rfl, q, rfl⟩))
  clear hwr
  have HB3 := Lib.hid hb3
  have HS3 := Lib.hid hs3
  clear hb3 hs3
  go_wp2
  go_ret
  refine ⟨rfl, below_drewN ?_ q⟩
  have h1 : Below w.heap.size w w2 := (HB.out.alloc HB.out.size _).trans (HB2.out.mono (by have := HB.out.size; simp; omega))
  exact h1.drew.trans (HB3.out.mono h1.size)
theorem fnJump_true (hi : Nat) (hh : hi < 18446744073709551616) (lo : Nat) (hl : lo < 18446744073709551616) (k : Nat) (_hk : k < 65536) (p : Nat) (_hp : p < 256) (w : World) :
    Calls Try.prog 8 #[.int .u64 hi, .int .u64 lo, .int .u16 k, .int .u8 p] w fun e w' => e = .returned (.bool true) ∧ Below w.heap.size w w' :=
  fnJump_go hi lo k p (k % 301) (1 + p % 100) (k % 301 + (1 + p % 100)) w hh hl (by omega) (by omega) (by omega) (by omega) (by omega) (by omega) (by omega)
end Go.Proofs.Ytglfeoiakhnkgaa
