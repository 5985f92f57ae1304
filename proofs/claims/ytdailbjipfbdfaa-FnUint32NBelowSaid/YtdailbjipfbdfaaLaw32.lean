/- The law FnUint32NBelow as a walk. -/
import Derived.Test.YtdailbjipfbdfaaKind32
namespace Go.Proofs.Ytdailbjipfbdfaa
open Go.RowKit

set_option maxHeartbeats 1000000 in
theorem fnUint32NBelow_true (A : Option Addr) (n c : Nat) (zs : List Int) {w : World} (hA : Arr .u64 w A n c zs) (m : Nat) (hm : m < 4294967296) :
    Calls Try.prog 8 #[.slice A n c, .int .u32 m] w fun e w' => e = .returned (.bool true) ∧ Below w.heap.size w w' := by
  obtain ⟨xs, hs, hx, hnil⟩ := sl_of_arr hA
  have hmx : n ≤ maxLen := Nat.le_trans hA.2.1 hA.2.2.1
  unfold maxLen at hmx
  clear hA
  by_cases h1 : 2147483647 < n
  · have t1 : decide ((2147483647 : Int) < (n : Int)) = true := by simp; omega
    clear hs hnil
    go_enter Try.func8, Try.ntmps8
    go_wp2
    go_ret
    exact ⟨rfl, Below.refl _ _⟩
  · have t1 : decide ((2147483647 : Int) < (n : Int)) = false := by simp; omega
    by_cases h0 : m = 0
    · subst h0
      clear hs hnil
      go_enter Try.func8, Try.ntmps8
      go_wp2
      go_ret
      exact ⟨rfl, Below.refl _ _⟩
    · have t0 : ((m : Int) == 0) = false := by simp; omega
      by_cases h6 : n ≤ 600
      · have d6 := few_yes h6
        have hlt : (Pl.belowN xs m 0).1 < m := Pl.belowN_lt hx (by omega) 0
        have hge : decide ((1 : Int) ≤ ((Pl.belowN xs m 0).2 : Nat)) = true := by have := (Pl.belowN_taken hx (show 0 < m by omega) 0).1; simp; omega
        have HC := Lib.hid (implUint32N_any A n c m xs w (by omega) hnil hs hx (by omega) hm)
        clear hs hnil hx
        go_enter Try.func8, Try.ntmps8
        go_wp2_with (go_at_call 14; refine (few_any _ _ _ _).mono ?_; rintro e w' ⟨rfl, rfl⟩)
        refine HC.out.mono ?_
        rintro e w1 ⟨rfl, hb⟩
        have HB := Lib.hid hb
        clear hb
        go_wp2
        go_ret
        exact ⟨rfl, HB.out⟩
      · have d6 : decide (n ≤ 600) = false := by simpa using h6
        clear hs hnil
        go_enter Try.func8, Try.ntmps8
        go_wp2_with (go_at_call 14; refine (few_any _ _ _ _).mono ?_; rintro e w' ⟨rfl, rfl⟩)
        go_ret
        exact ⟨rfl, Below.refl _ _⟩
end Go.Proofs.Ytdailbjipfbdfaa
