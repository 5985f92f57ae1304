/- The laws FnSpread, FnRefused as walks. -/
import Derived.Test.YtdailbjipfbdfaaNum
import Derived.Test.YtdailbjipfbdfaaProd
import Derived.Deep.RegionHeld3
namespace Go.Proofs.Ytdailbjipfbdfaa
open Go.RowKit

theorem field_hi (x y : Int) (w : World) : (Instr.field 36 (.agg #[.int .u64 x, .int .u64 y]) 0).run Try.prog w = .ok (.int .u64 x) w := by kernel_rfl
theorem field_lo (x y : Int) (w : World) : (Instr.field 36 (.agg #[.int .u64 x, .int .u64 y]) 1).run Try.prog w = .ok (.int .u64 y) w := by kernel_rfl

theorem below_acc {x m : Nat} {xs : List Nat} (hp : Pl.pow2 m = false) (hw : Pl.wd xs 0 = x) (h : Pl.thr m ≤ Pl.mulLo x m) : Pl.belowN xs m 0 = (Pl.mulHi x m, 1) := by
  unfold Pl.belowN
  rw [if_neg (by simp [hp]), Pl.draw_in (by rw [hw]; exact h), hw]
theorem below_ref {x m : Nat} {xs : List Nat} (hx : ∀ x ∈ xs, x < 18446744073709551616) (h0 : 0 < m) (hm : m < 18446744073709551616) (hp : Pl.pow2 m = false) (hw : Pl.wd xs 0 = x) (h : Pl.mulLo x m < Pl.thr m) : 2 ≤ (Pl.belowN xs m 0).2 := by
  unfold Pl.belowN
  rw [if_neg (by simp [hp]), (Pl.draw_out h0 hm (by rw [hw]; exact h)).2]
  exact (Pl.drawF_facts xs hx m h0 _ 1).2.1
theorem sl_one (x : Nat) (w : World) : Sl (w.alloc (.cells #[.int .u64 x] 32)) (fun _ => False) (some ⟨w.heap.size, 0, none⟩) 1 [x] := by
  refine ⟨rfl, fun _ => ⟨w.heap.size, 0, rfl, by simp, fun i hi => ?_⟩⟩
  obtain rfl : i = 0 := by omega
  have h := (Whole.new w 32 #[.int .u64 x]).cell 0
  rw [Nat.zero_add, h]
  rfl
theorem sl_two (x y : Nat) (w : World) : Sl (w.alloc (.cells #[.int .u64 x, .int .u64 y] 32)) (fun _ => False) (some ⟨w.heap.size, 0, none⟩) 2 [x, y] := by
  refine ⟨rfl, fun _ => ⟨w.heap.size, 0, rfl, by simp, fun i hi => ?_⟩⟩
  have h := (Whole.new w 32 #[.int .u64 x, .int .u64 y]).cell i
  rw [Nat.zero_add, h]
  rcases i with _ | _ | i
  · rfl
  · rfl
  · omega

set_option maxHeartbeats 1000000 in
theorem fnSpread_zero (x : Nat) (w : World) :
    Calls Try.prog 6 #[.int .u64 x, .int .u64 0] w fun e w' => e = .returned (.bool true) ∧ Below w.heap.size w w' := by
  have t0 : (bits .and .u64 0 (IntKind.u64.wrap (-1)) == 0) = true := by decide
  go_enter Try.func6, Try.ntmps6
  go_wp2
  go_ret
  exact ⟨rfl, Below.refl _ _⟩

set_option maxHeartbeats 1000000 in
theorem fnSpread_go (x m : Nat) (w : World) (hx : x < 18446744073709551616) (h0 : 0 < m) (hm : m < 18446744073709551616) :
    Calls Try.prog 6 #[.int .u64 x, .int .u64 m] w fun e w' => e = .returned (.bool true) ∧ Below w.heap.size w w' := by
  have tb := pow_test h0 hm
  by_cases hp : Pl.pow2 m = true
  · rw [hp] at tb
    go_enter Try.func6, Try.ntmps6
    go_wp2
    go_ret
    exact ⟨rfl, Below.refl _ _⟩
  · have hp' : Pl.pow2 m = false := by simpa using hp
    rw [hp'] at tb
    have hxs : ∀ y ∈ [x], y < 18446744073709551616 := by simpa using hx
    have hwd : Pl.wd [x] 0 = x := by rw [Pl.wd_def]; rfl
    have hc := implN_any (some ⟨w.heap.size, 0, none⟩) 1 1 m [x] _ (by omega) (by intro e; cases e) (sl_one x w) hxs h0 hm
    have hbw : Below w.heap.size w (w.alloc (.cells #[.int .u64 x] 32)) := (Below.refl _ _).alloc (Nat.le_refl _) _
    have HBW := Lib.hid hbw
    by_cases ha : Pl.thr m ≤ Pl.mulLo x m
    · rw [below_acc hp' hwd ha] at hc
      have HC := Lib.hid hc
      have HP := Lib.hid (fun W => product_any x m W hx hm)
      have hf := fun W => field_hi (Pl.mulHi x m : Nat) (Pl.mulLo x m : Nat) W
      have q1 : (((Pl.mulHi x m : Nat) : Int) == ((Pl.mulHi x m : Nat) : Int)) = true := by simp
      have q2 := Pl.mulHi_below hx h0
      clear hc hbw hxs hwd hp hp' ha
      go_enter Try.func6, Try.ntmps6
      go_wp2_with fail
      refine HC.out.mono ?_
      rintro e w1 ⟨rfl, hb1⟩
      have HB1 := Lib.hid (HBW.out.trans (hb1.mono HBW.out.size))
      clear hb1
      go_wp2_with fail
      refine (HP.out _).mono ?_
      rintro e w2 ⟨rfl, hb2⟩
      have HB2 := Lib.hid (HB1.out.trans (hb2.mono HB1.out.size))
      clear hb2
      go_wp2
      go_ret
      exact ⟨rfl, HB2.out⟩
    · have hu := below_ref hxs h0 hm hp' hwd (Nat.not_le.1 ha)
      have q1 : decide ((0 : Int) < ((Pl.belowN [x] m 0).2 : Nat)) = true := by simp; omega
      have q2 : decide ((1 : Int) < ((Pl.belowN [x] m 0).2 : Nat)) = true := by simp; omega
      have q3 : decide (0 < (Pl.belowN [x] m 0).2) = true := by simp; omega
      have q4 : decide (1 < (Pl.belowN [x] m 0).2) = true := by simp; omega
      have HC := Lib.hid hc
      clear hc hbw hxs hwd hp hp' ha
      go_enter Try.func6, Try.ntmps6
      go_wp2_with fail
      refine HC.out.mono ?_
      rintro e w1 ⟨rfl, hb1⟩
      have HB1 := Lib.hid (HBW.out.trans (hb1.mono HBW.out.size))
      clear hb1
      go_wp2
      go_ret
      exact ⟨rfl, HB1.out⟩
theorem fnSpread_true (x : Nat) (hx : x < 18446744073709551616) (m : Nat) (hm : m < 18446744073709551616) {w : World} :
    Calls Try.prog 6 #[.int .u64 x, .int .u64 m] w fun e w' => e = .returned (.bool true) ∧ Below w.heap.size w w' := by
  rcases Nat.eq_zero_or_pos m with h0 | h0
  · subst h0; exact fnSpread_zero x w
  · exact fnSpread_go x m w hx h0 hm

set_option maxHeartbeats 1000000 in
theorem fnRefused_zero (x : Nat) (w : World) :
    Calls Try.prog 5 #[.int .u64 x, .int .u64 0] w fun e w' => e = .returned (.bool true) ∧ Below w.heap.size w w' := by
  have t0 : (bits .and .u64 0 (IntKind.u64.wrap (-1)) == 0) = true := by decide
  go_enter Try.func5, Try.ntmps5
  go_wp2
  go_ret
  exact ⟨rfl, Below.refl _ _⟩

set_option maxHeartbeats 1000000 in
theorem fnRefused_go (x m : Nat) (w : World) (hx : x < 18446744073709551616) (h0 : 0 < m) (hm : m < 18446744073709551616) :
    Calls Try.prog 5 #[.int .u64 x, .int .u64 m] w fun e w' => e = .returned (.bool true) ∧ Below w.heap.size w w' := by
  have tb := pow_test h0 hm
  by_cases hp : Pl.pow2 m = true
  · rw [hp] at tb
    go_enter Try.func5, Try.ntmps5
    go_wp2
    go_ret
    exact ⟨rfl, Below.refl _ _⟩
  · have hp' : Pl.pow2 m = false := by simpa using hp
    rw [hp'] at tb
    have hxs : ∀ y ∈ [x, 9223372036854775808], y < 18446744073709551616 := by simpa using hx
    have hwd : Pl.wd [x, 9223372036854775808] 0 = x := by rw [Pl.wd_def]; rfl
    have hc := implN_any (some ⟨w.heap.size, 0, none⟩) 2 2 m [x, 9223372036854775808] _ (by omega) (by intro e; cases e) (sl_two x 9223372036854775808 w) hxs h0 hm
    have hbw : Below w.heap.size w (w.alloc (.cells #[.int .u64 x, .int .u64 ((9223372036854775808 : Nat) : Int)] 32)) := (Below.refl _ _).alloc (Nat.le_refl _) _
    have HBW := Lib.hid hbw
    have HP := Lib.hid (fun W => product_any x m W hx hm)
    have HTH := Lib.hid (thr_eq h0 hm)
    have hf := fun W => field_lo (Pl.mulHi x m : Nat) (Pl.mulLo x m : Nat) W
    have hm1 : (m : Int) ≠ 0 := by omega
    have hm2 : ¬ m = 0 := by omega
    have hm3 : (m == 0) = false := by simpa using hm2
    have hm4 : ((m : Int) == 0) = false := by simpa using hm1
    obtain ⟨u, hu⟩ : ∃ u, u = (Pl.belowN [x, 9223372036854775808] m 0).2 := ⟨_, rfl⟩
    obtain ⟨v, hv⟩ : ∃ v, v = (Pl.belowN [x, 9223372036854775808] m 0).1 := ⟨_, rfl⟩
    have hcase : (u = 1 ∧ ¬ Pl.mulLo x m < Pl.thr m) ∨ (2 ≤ u ∧ Pl.mulLo x m < Pl.thr m) := by
      by_cases ha : Pl.thr m ≤ Pl.mulLo x m
      · exact .inl ⟨by rw [hu, below_acc hp' hwd ha], by omega⟩
      · exact .inr ⟨by rw [hu]; exact below_ref hxs h0 hm hp' hwd (Nat.not_le.1 ha), by omega⟩
    rw [← hu, ← hv] at hc
    have HC := Lib.hid hc
    clear hc hbw hxs hwd hp hp' hu hv
    rcases hcase with ⟨rfl, hl⟩ | ⟨hu2, hl⟩
    · have q4 : decide (Pl.mulLo x m < Pl.thr m) = false := by simpa using hl
      go_enter Try.func5, Try.ntmps5
      go_wp2_with fail
      refine HC.out.mono ?_
      rintro e w1 ⟨rfl, hb1⟩
      have HB1 := Lib.hid (HBW.out.trans (hb1.mono HBW.out.size))
      clear hb1
      go_wp2_with fail
      have eth := HTH.out
      go_region_held3 (fun _ => True) (exact trivial)
        (first | (go_at_call 18; refine (HP.out _).mono ?_; rintro e w2 ⟨rfl, hb2⟩))
      clear eth
      have HB2 := Lib.hid (HB1.out.drew.trans (hb2.mono HB1.out.size))
      clear hb2
      go_wp2
      go_ret
      exact ⟨rfl, HB2.out⟩
    · have q1 : decide ((0 : Int) < (u : Int)) = true := by simp; omega
      have q2 : decide ((1 : Int) < (u : Int)) = true := by simp; omega
      have q3 : decide (0 < u) = true := by simp; omega
      have q5 : decide (1 < u) = true := by simp; omega
      have q4 : decide (Pl.mulLo x m < Pl.thr m) = true := by simpa using hl
      go_enter Try.func5, Try.ntmps5
      go_wp2_with fail
      refine HC.out.mono ?_
      rintro e w1 ⟨rfl, hb1⟩
      have HB1 := Lib.hid (HBW.out.trans (hb1.mono HBW.out.size))
      clear hb1
      go_wp2_with fail
      have eth := HTH.out
      go_region_held3 (fun _ => True) (exact trivial)
        (first | (go_at_call 18; refine (HP.out _).mono ?_; rintro e w2 ⟨rfl, hb2⟩))
      clear eth
      have HB2 := Lib.hid (HB1.out.drew.trans (hb2.mono HB1.out.size))
      clear hb2
      go_wp2
      go_ret
      exact ⟨rfl, HB2.out⟩
theorem fnRefused_true (x : Nat) (hx : x < 18446744073709551616) (m : Nat) (hm : m < 18446744073709551616) {w : World} :
    Calls Try.prog 5 #[.int .u64 x, .int .u64 m] w fun e w' => e = .returned (.bool true) ∧ Below w.heap.size w w' := by
  rcases Nat.eq_zero_or_pos m with h0 | h0
  · subst h0; exact fnRefused_zero x w
  · exact fnRefused_go x m w hx h0 hm
end Go.Proofs.Ytdailbjipfbdfaa
