/- The laws FnUint64N, FnUint32N as walks. -/
import Derived.Test.YtdailbjipfbdfaaBelow
import Derived.Test.YtdailbjipfbdfaaKind32
namespace Go.Proofs.Ytdailbjipfbdfaa
open Go.RowKit

theorem eq_self (v : Nat) : ((v : Int) == (v : Int)) = true := by simp
/-- A source that is made of words that came in. -/
theorem srcT_start (A : Option Addr) (n c : Nat) (xs : List Nat) (w : World) (hn : n ≤ 2147483647) (hs : Sl w (fun _ => False) A n xs) (hx : ∀ x ∈ xs, x < 18446744073709551616) :
    SrcT (fun g => g = w.heap.size) w.heap.size A n c xs (w.alloc (.cells #[.slice A n c, .int .i64 0] 41)) 0 := by
  refine ⟨Whole.new _ _ _, ⟨hs.1, fun h0 => ?_⟩, rfl, hn, hx⟩
  obtain ⟨g, o, e, _, hc⟩ := hs.2 h0
  refine ⟨g, o, e, fun hg => ?_, fun i hi => cell_later ((Below.refl _ _).alloc (Nat.le_refl _) _) (hc i hi)⟩
  have := World.block_lt_of_cell? _ _ (hc 0 h0)
  simp at this
  omega

set_option maxHeartbeats 1000000 in
theorem fnUint64N_true (A : Option Addr) (n c : Nat) (zs : List Int) {w : World} (hA : Arr .u64 w A n c zs) (m : Nat) (hm : m < 18446744073709551616) :
    Calls Try.prog 9 #[.slice A n c, .int .u64 m] w fun e w' => e = .returned (.bool true) ∧ Below w.heap.size w w' := by
  obtain ⟨xs, hs, hx, hnil⟩ := sl_of_arr hA
  have hmx : n ≤ maxLen := Nat.le_trans hA.2.1 hA.2.2.1
  unfold maxLen at hmx
  clear hA
  by_cases h1 : 2147483647 < n
  · have t1 : decide ((2147483647 : Int) < (n : Int)) = true := by simp; omega
    clear hs hnil
    go_enter Try.func9, Try.ntmps9
    go_wp2
    go_ret
    exact ⟨rfl, Below.refl _ _⟩
  · have t1 : decide ((2147483647 : Int) < (n : Int)) = false := by simp; omega
    by_cases h0 : m = 0
    · subst h0
      clear hs hnil
      go_enter Try.func9, Try.ntmps9
      go_wp2
      go_ret
      exact ⟨rfl, Below.refl _ _⟩
    · have t0 : ((m : Int) == 0) = false := by simp; omega
      by_cases h6 : n ≤ 600
      · have d6 := few_yes h6
        have hlt := Pl.belowN_lt hx (show 0 < m by omega) 0
        have f4 := eq_self (Pl.belowN xs m 0).1
        have f5 := eq_self (Pl.belowN xs m 0).2
        have HC := Lib.hid (fun (W : World) (hb : Below w.heap.size w W) => implN_any A n c m xs W (by omega) hnil (hs.later hb) hx (by omega) hm)
        have HS := Lib.hid (below64_any m (by omega) (by omega) (srcT_start A n c xs w (by omega) hs hx) (by omega))
        clear hs hnil hx
        go_enter Try.func9, Try.ntmps9
        go_wp2_with (go_at_call 14; refine (few_any _ _ _ _).mono ?_; rintro e w' ⟨rfl, rfl⟩)
        refine HS.out.mono ?_
        rintro e w1 ⟨rfl, h2, h3⟩
        have hb1 := below_src (Below.refl _ _) h3 (Nat.le_refl _)
        have c0 := Whole.cell h2.1 1
        simp at c0
        have HB1 := Lib.hid hb1
        clear h2 h3 hb1
        go_wp2_with fail
        refine (HC.out _ HB1.out).mono ?_
        rintro e w2 ⟨rfl, hb2⟩
        have c1 := cell_later hb2 c0
        have HB2 := Lib.hid (HB1.out.trans (hb2.mono HB1.out.size))
        clear hb2 c0
        go_wp2
        go_ret
        exact ⟨rfl, HB2.out⟩
      · have d6 : decide (n ≤ 600) = false := by simpa using h6
        clear hs hnil
        go_enter Try.func9, Try.ntmps9
        go_wp2_with (go_at_call 14; refine (few_any _ _ _ _).mono ?_; rintro e w' ⟨rfl, rfl⟩)
        go_ret
        exact ⟨rfl, Below.refl _ _⟩

set_option maxHeartbeats 1000000 in
theorem fnUint32N_true (A : Option Addr) (n c : Nat) (zs : List Int) {w : World} (hA : Arr .u64 w A n c zs) (m : Nat) (hm : m < 4294967296) :
    Calls Try.prog 7 #[.slice A n c, .int .u32 m] w fun e w' => e = .returned (.bool true) ∧ Below w.heap.size w w' := by
  obtain ⟨xs, hs, hx, hnil⟩ := sl_of_arr hA
  have hmx : n ≤ maxLen := Nat.le_trans hA.2.1 hA.2.2.1
  unfold maxLen at hmx
  clear hA
  by_cases h1 : 2147483647 < n
  · have t1 : decide ((2147483647 : Int) < (n : Int)) = true := by simp; omega
    clear hs hnil
    go_enter Try.func7, Try.ntmps7
    go_wp2
    go_ret
    exact ⟨rfl, Below.refl _ _⟩
  · have t1 : decide ((2147483647 : Int) < (n : Int)) = false := by simp; omega
    by_cases h0 : m = 0
    · subst h0
      clear hs hnil
      go_enter Try.func7, Try.ntmps7
      go_wp2
      go_ret
      exact ⟨rfl, Below.refl _ _⟩
    · have t0 : ((m : Int) == 0) = false := by simp; omega
      by_cases h6 : n ≤ 600
      · have d6 := few_yes h6
        have hlt := Pl.belowN_lt hx (show 0 < m by omega) 0
        have f4 := eq_self (Pl.belowN xs m 0).1
        have f5 := eq_self (Pl.belowN xs m 0).2
        have HC := Lib.hid (fun (W : World) (hb : Below w.heap.size w W) => implUint32N_any A n c m xs W (by omega) hnil (hs.later hb) hx (by omega) hm)
        have HS := Lib.hid (below64_any m (by omega) (by omega) (srcT_start A n c xs w (by omega) hs hx) (by omega))
        clear hs hnil hx
        go_enter Try.func7, Try.ntmps7
        go_wp2_with (go_at_call 14; refine (few_any _ _ _ _).mono ?_; rintro e w' ⟨rfl, rfl⟩)
        refine HS.out.mono ?_
        rintro e w1 ⟨rfl, h2, h3⟩
        have hb1 := below_src (Below.refl _ _) h3 (Nat.le_refl _)
        have c0 := Whole.cell h2.1 1
        simp at c0
        have HB1 := Lib.hid hb1
        clear h2 h3 hb1
        go_wp2_with fail
        refine (HC.out _ HB1.out).mono ?_
        rintro e w2 ⟨rfl, hb2⟩
        have c1 := cell_later hb2 c0
        have HB2 := Lib.hid (HB1.out.trans (hb2.mono HB1.out.size))
        clear hb2 c0
        go_wp2
        go_ret
        exact ⟨rfl, HB2.out⟩
      · have d6 : decide (n ≤ 600) = false := by simpa using h6
        clear hs hnil
        go_enter Try.func7, Try.ntmps7
        go_wp2_with (go_at_call 14; refine (few_any _ _ _ _).mono ?_; rintro e w' ⟨rfl, rfl⟩)
        go_ret
        exact ⟨rfl, Below.refl _ _⟩
end Go.Proofs.Ytdailbjipfbdfaa
