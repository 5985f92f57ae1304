/- The laws FnSigned, FnSigned32, FnNarrow, FnOneOf as walks. -/
import Derived.Test.YtmfeeeaajelfjaaKinds
namespace Go.Proofs.Ytmfeeeaajelfjaa
open Go.RowKit

theorem ge_zero (v : Nat) : decide ((0 : Int) ≤ (v : Int)) = true := by simp
theorem gt_zero {v : Nat} (h : 1 ≤ v) : decide (0 < v) = true := by simp; omega
theorem eq_self (v : Nat) : ((v : Int) == (v : Int)) = true := by simp

set_option maxHeartbeats 2000000 in
theorem fnSigned_go (A : Option Addr) (n c : Nat) (m : Nat) (h0 : 0 < m) (hm : m < 9223372036854775808) (xs : List Nat) (w : World) (hn : n ≤ 600) (hnil : A = none → n = 0) (hs : Sl w (fun _ => False) A n xs) (hx : ∀ x ∈ xs, x < 18446744073709551616) :
    Calls Try.prog 4 #[.slice A n c, .int .i64 m] w fun e w' => e = .returned (.bool true) ∧ Below w.heap.size w w' := by
    have t1 : decide ((2147483647 : Int) < (n : Int)) = false := by simp; omega
    have d6 := few_yes hn
    have p1 : decide ((m : Int) ≤ 0) = false := by simp; omega
    have f1_m := Pl.belowN_lt hx (show 0 < m by omega) 0
    have f2_m := ge_zero (Pl.belowN xs m 0).1
    have f3_m := gt_zero (show 1 ≤ (Pl.belowN xs m 0).2 by have := (Pl.belowN_taken hx (show 0 < m by omega) 0).1; omega)
    have f4_m := eq_self (Pl.belowN xs m 0).1
    have f5_m := eq_self (Pl.belowN xs m 0).2
    have HC0 := Lib.hid (fun (W : World) (hb : Below w.heap.size w W) => implN_any A n c m xs W (by omega) hnil (hs.later hb) hx (by omega) (by omega))
    have HC1 := Lib.hid (fun (W : World) (hb : Below w.heap.size w W) => implInt64N_any A n c m xs W (by omega) hnil (hs.later hb) hx (by omega) (by omega))
    have HC2 := Lib.hid (fun (W : World) (hb : Below w.heap.size w W) => implIntN_any A n c m xs W (by omega) hnil (hs.later hb) hx (by omega) (by omega))
    have HC3 := Lib.hid (fun (W : World) (hb : Below w.heap.size w W) => implUintN_any A n c m xs W (by omega) hnil (hs.later hb) hx (by omega) (by omega))
    clear hs hnil hx
    go_enter Try.func4, Try.ntmps4
    go_wp2_with (go_at_call 17; refine (few_any _ _ _ _).mono ?_; rintro e w' ⟨rfl, rfl⟩)
    refine (HC0.out _ (Below.refl _ _)).mono ?_
    rintro e w1 ⟨rfl, hb1⟩
    have HB1 := Lib.hid hb1
    clear hb1
    go_wp2_with fail
    refine (HC1.out _ HB1.out).mono ?_
    rintro e w2 ⟨rfl, hb2⟩
    have HB2 := Lib.hid (HB1.out.trans (hb2.mono HB1.out.size))
    clear hb2
    go_wp2_with fail
    refine (HC2.out _ HB2.out).mono ?_
    rintro e w3 ⟨rfl, hb3⟩
    have HB3 := Lib.hid (HB2.out.trans (hb3.mono HB2.out.size))
    clear hb3
    go_wp2_with fail
    refine (HC3.out _ HB3.out).mono ?_
    rintro e w4 ⟨rfl, hb4⟩
    have HB4 := Lib.hid (HB3.out.trans (hb4.mono HB3.out.size))
    clear hb4
    go_wp2
    go_ret
    exact ⟨rfl, HB4.out⟩

set_option maxHeartbeats 2000000 in
theorem fnSigned32_go (A : Option Addr) (n c : Nat) (m : Nat) (h0 : 0 < m) (hm : m < 2147483648) (xs : List Nat) (w : World) (hn : n ≤ 600) (hnil : A = none → n = 0) (hs : Sl w (fun _ => False) A n xs) (hx : ∀ x ∈ xs, x < 18446744073709551616) :
    Calls Try.prog 13 #[.slice A n c, .int .i32 m] w fun e w' => e = .returned (.bool true) ∧ Below w.heap.size w w' := by
    have t1 : decide ((2147483647 : Int) < (n : Int)) = false := by simp; omega
    have d6 := few_yes hn
    have p1 : decide ((m : Int) ≤ 0) = false := by simp; omega
    have f1_m := Pl.belowN_lt hx (show 0 < m by omega) 0
    have f2_m := ge_zero (Pl.belowN xs m 0).1
    have f3_m := gt_zero (show 1 ≤ (Pl.belowN xs m 0).2 by have := (Pl.belowN_taken hx (show 0 < m by omega) 0).1; omega)
    have f4_m := eq_self (Pl.belowN xs m 0).1
    have f5_m := eq_self (Pl.belowN xs m 0).2
    have HC0 := Lib.hid (fun (W : World) (hb : Below w.heap.size w W) => implUint32N_any A n c m xs W (by omega) hnil (hs.later hb) hx (by omega) (by omega))
    have HC1 := Lib.hid (fun (W : World) (hb : Below w.heap.size w W) => implInt32N_any A n c m xs W (by omega) hnil (hs.later hb) hx (by omega) (by omega))
    clear hs hnil hx
    go_enter Try.func13, Try.ntmps13
    go_wp2_with (go_at_call 17; refine (few_any _ _ _ _).mono ?_; rintro e w' ⟨rfl, rfl⟩)
    refine (HC0.out _ (Below.refl _ _)).mono ?_
    rintro e w1 ⟨rfl, hb1⟩
    have HB1 := Lib.hid hb1
    clear hb1
    go_wp2_with fail
    refine (HC1.out _ HB1.out).mono ?_
    rintro e w2 ⟨rfl, hb2⟩
    have HB2 := Lib.hid (HB1.out.trans (hb2.mono HB1.out.size))
    clear hb2
    go_wp2
    go_ret
    exact ⟨rfl, HB2.out⟩

set_option maxHeartbeats 2000000 in
theorem fnNarrow_go (A : Option Addr) (n c : Nat) (m : Nat) (h0 : 0 < m) (hm : m < 128) (p : Nat) (g0 : 0 < p) (gm : p < 65536) (xs : List Nat) (w : World) (hn : n ≤ 600) (hnil : A = none → n = 0) (hs : Sl w (fun _ => False) A n xs) (hx : ∀ x ∈ xs, x < 18446744073709551616) :
    Calls Try.prog 14 #[.slice A n c, .int .i8 m, .int .u16 p] w fun e w' => e = .returned (.bool true) ∧ Below w.heap.size w w' := by
    have t1 : decide ((2147483647 : Int) < (n : Int)) = false := by simp; omega
    have d6 := few_yes hn
    have p1 : decide ((m : Int) ≤ 0) = false := by simp; omega
    have p2 : ((p : Int) == 0) = false := by simp; omega
    have f1_m := Pl.belowN_lt hx (show 0 < m by omega) 0
    have f2_m := ge_zero (Pl.belowN xs m 0).1
    have f3_m := gt_zero (show 1 ≤ (Pl.belowN xs m 0).2 by have := (Pl.belowN_taken hx (show 0 < m by omega) 0).1; omega)
    have f4_m := eq_self (Pl.belowN xs m 0).1
    have f5_m := eq_self (Pl.belowN xs m 0).2
    have f1_p := Pl.belowN_lt hx (show 0 < p by omega) 0
    have f2_p := ge_zero (Pl.belowN xs p 0).1
    have f3_p := gt_zero (show 1 ≤ (Pl.belowN xs p 0).2 by have := (Pl.belowN_taken hx (show 0 < p by omega) 0).1; omega)
    have f4_p := eq_self (Pl.belowN xs p 0).1
    have f5_p := eq_self (Pl.belowN xs p 0).2
    have HC0 := Lib.hid (fun (W : World) (hb : Below w.heap.size w W) => implN8_any A n c m xs W (by omega) hnil (hs.later hb) hx (by omega) (by omega))
    have HC1 := Lib.hid (fun (W : World) (hb : Below w.heap.size w W) => implN16_any A n c p xs W (by omega) hnil (hs.later hb) hx (by omega) (by omega))
    have HC2 := Lib.hid (fun (W : World) (hb : Below w.heap.size w W) => implN_any A n c m xs W (by omega) hnil (hs.later hb) hx (by omega) (by omega))
    have HC3 := Lib.hid (fun (W : World) (hb : Below w.heap.size w W) => implN_any A n c p xs W (by omega) hnil (hs.later hb) hx (by omega) (by omega))
    clear hs hnil hx
    go_enter Try.func14, Try.ntmps14
    go_wp2_with (go_at_call 17; refine (few_any _ _ _ _).mono ?_; rintro e w' ⟨rfl, rfl⟩)
    refine (HC0.out _ (Below.refl _ _)).mono ?_
    rintro e w1 ⟨rfl, hb1⟩
    have HB1 := Lib.hid hb1
    clear hb1
    go_wp2_with fail
    refine (HC1.out _ HB1.out).mono ?_
    rintro e w2 ⟨rfl, hb2⟩
    have HB2 := Lib.hid (HB1.out.trans (hb2.mono HB1.out.size))
    clear hb2
    go_wp2_with fail
    refine (HC2.out _ HB2.out).mono ?_
    rintro e w3 ⟨rfl, hb3⟩
    have HB3 := Lib.hid (HB2.out.trans (hb3.mono HB2.out.size))
    clear hb3
    go_wp2_with fail
    refine (HC3.out _ HB3.out).mono ?_
    rintro e w4 ⟨rfl, hb4⟩
    have HB4 := Lib.hid (HB3.out.trans (hb4.mono HB3.out.size))
    clear hb4
    go_wp2
    go_ret
    exact ⟨rfl, HB4.out⟩

set_option maxHeartbeats 1000000 in
theorem fnSigned_true (A : Option Addr) (n c : Nat) (zs : List Int) {w : World} (hA : Arr .u64 w A n c zs) (a : Int) (_ha : -9223372036854775808 ≤ a) (hb : a ≤ 9223372036854775807) :
    Calls Try.prog 4 #[.slice A n c, .int .i64 a] w fun e w' => e = .returned (.bool true) ∧ Below w.heap.size w w' := by
  obtain ⟨xs, hs, hx, hnil⟩ := sl_of_arr hA
  have hmx : n ≤ maxLen := Nat.le_trans hA.2.1 hA.2.2.1
  unfold maxLen at hmx
  clear hA
  by_cases h1 : 2147483647 < n
  · have t1 : decide ((2147483647 : Int) < (n : Int)) = true := by simp; omega
    clear hs hnil hx
    go_enter Try.func4, Try.ntmps4
    go_wp2
    go_ret
    exact ⟨rfl, Below.refl _ _⟩
  · have t1 : decide ((2147483647 : Int) < (n : Int)) = false := by simp; omega
    by_cases h0 : a ≤ 0
    · have p1 : decide (a ≤ 0) = true := by simpa using h0
      clear hs hnil hx
      go_enter Try.func4, Try.ntmps4
      go_wp2
      go_ret
      exact ⟨rfl, Below.refl _ _⟩
    · have p1 : decide (a ≤ 0) = false := by simpa using h0
      by_cases h6 : n ≤ 600
      · obtain ⟨m, rfl⟩ : ∃ m : Nat, a = (m : Int) := ⟨a.toNat, by omega⟩
        exact fnSigned_go A n c m (by omega) (by omega) xs w h6 hnil hs hx
      · have d6 : decide (n ≤ 600) = false := by simpa using h6
        clear hs hnil hx
        go_enter Try.func4, Try.ntmps4
        go_wp2_with (go_at_call 17; refine (few_any _ _ _ _).mono ?_; rintro e w' ⟨rfl, rfl⟩)
        go_ret
        exact ⟨rfl, Below.refl _ _⟩

set_option maxHeartbeats 1000000 in
theorem fnSigned32_true (A : Option Addr) (n c : Nat) (zs : List Int) {w : World} (hA : Arr .u64 w A n c zs) (a : Int) (_ha : -2147483648 ≤ a) (hb : a ≤ 2147483647) :
    Calls Try.prog 13 #[.slice A n c, .int .i32 a] w fun e w' => e = .returned (.bool true) ∧ Below w.heap.size w w' := by
  obtain ⟨xs, hs, hx, hnil⟩ := sl_of_arr hA
  have hmx : n ≤ maxLen := Nat.le_trans hA.2.1 hA.2.2.1
  unfold maxLen at hmx
  clear hA
  by_cases h1 : 2147483647 < n
  · have t1 : decide ((2147483647 : Int) < (n : Int)) = true := by simp; omega
    clear hs hnil hx
    go_enter Try.func13, Try.ntmps13
    go_wp2
    go_ret
    exact ⟨rfl, Below.refl _ _⟩
  · have t1 : decide ((2147483647 : Int) < (n : Int)) = false := by simp; omega
    by_cases h0 : a ≤ 0
    · have p1 : decide (a ≤ 0) = true := by simpa using h0
      clear hs hnil hx
      go_enter Try.func13, Try.ntmps13
      go_wp2
      go_ret
      exact ⟨rfl, Below.refl _ _⟩
    · have p1 : decide (a ≤ 0) = false := by simpa using h0
      by_cases h6 : n ≤ 600
      · obtain ⟨m, rfl⟩ : ∃ m : Nat, a = (m : Int) := ⟨a.toNat, by omega⟩
        exact fnSigned32_go A n c m (by omega) (by omega) xs w h6 hnil hs hx
      · have d6 : decide (n ≤ 600) = false := by simpa using h6
        clear hs hnil hx
        go_enter Try.func13, Try.ntmps13
        go_wp2_with (go_at_call 17; refine (few_any _ _ _ _).mono ?_; rintro e w' ⟨rfl, rfl⟩)
        go_ret
        exact ⟨rfl, Below.refl _ _⟩

set_option maxHeartbeats 1000000 in
theorem fnNarrow_true (A : Option Addr) (n c : Nat) (zs : List Int) {w : World} (hA : Arr .u64 w A n c zs) (a : Int) (_ha : -128 ≤ a) (hb : a ≤ 127) (p : Nat) (hp : p < 65536) :
    Calls Try.prog 14 #[.slice A n c, .int .i8 a, .int .u16 p] w fun e w' => e = .returned (.bool true) ∧ Below w.heap.size w w' := by
  obtain ⟨xs, hs, hx, hnil⟩ := sl_of_arr hA
  have hmx : n ≤ maxLen := Nat.le_trans hA.2.1 hA.2.2.1
  unfold maxLen at hmx
  clear hA
  by_cases h1 : 2147483647 < n
  · have t1 : decide ((2147483647 : Int) < (n : Int)) = true := by simp; omega
    clear hs hnil hx
    go_enter Try.func14, Try.ntmps14
    go_wp2
    go_ret
    exact ⟨rfl, Below.refl _ _⟩
  · have t1 : decide ((2147483647 : Int) < (n : Int)) = false := by simp; omega
    by_cases h0 : a ≤ 0
    · have p1 : decide (a ≤ 0) = true := by simpa using h0
      clear hs hnil hx
      go_enter Try.func14, Try.ntmps14
      go_wp2
      go_ret
      exact ⟨rfl, Below.refl _ _⟩
    · have p1 : decide (a ≤ 0) = false := by simpa using h0
      by_cases hp0 : p = 0
      · subst hp0
        clear hs hnil hx
        go_enter Try.func14, Try.ntmps14
        go_wp2
        go_ret
        exact ⟨rfl, Below.refl _ _⟩
      · have p2 : ((p : Int) == 0) = false := by simp; omega
        by_cases h6 : n ≤ 600
        · obtain ⟨m, rfl⟩ : ∃ m : Nat, a = (m : Int) := ⟨a.toNat, by omega⟩
          exact fnNarrow_go A n c m (by omega) (by omega) p (by omega) hp xs w h6 hnil hs hx
        · have d6 : decide (n ≤ 600) = false := by simpa using h6
          clear hs hnil hx
          go_enter Try.func14, Try.ntmps14
          go_wp2_with (go_at_call 17; refine (few_any _ _ _ _).mono ?_; rintro e w' ⟨rfl, rfl⟩)
          go_ret
          exact ⟨rfl, Below.refl _ _⟩

theorem below_one (xs : List Nat) : Pl.belowN xs 1 0 = (0, 1) := by
  have hp : Pl.pow2 1 = true := by rw [Pl.pow2_def]; rfl
  unfold Pl.belowN
  rw [if_pos hp, Pl.low_def]
  simp

set_option maxHeartbeats 1000000 in
theorem fnOneOf_true (A : Option Addr) (n c : Nat) (zs : List Int) {w : World} (hA : Arr .u64 w A n c zs) :
    Calls Try.prog 12 #[.slice A n c] w fun e w' => e = .returned (.bool true) ∧ Below w.heap.size w w' := by
  obtain ⟨xs, hs, hx, hnil⟩ := sl_of_arr hA
  clear hA
  by_cases h1 : 2147483647 < n
  · have t1 : decide ((2147483647 : Int) < (n : Int)) = true := by simp; omega
    clear hs hnil hx
    go_enter Try.func12, Try.ntmps12
    go_wp2
    go_ret
    exact ⟨rfl, Below.refl _ _⟩
  · have t1 : decide ((2147483647 : Int) < (n : Int)) = false := by simp; omega
    have hc0 := fun (W : World) (hb : Below w.heap.size w W) => implN_any A n c 1 xs W (by omega) hnil (hs.later hb) hx (by omega) (by omega)
    have hc1 := fun (W : World) (hb : Below w.heap.size w W) => implUint32N_any A n c 1 xs W (by omega) hnil (hs.later hb) hx (by omega) (by omega)
    rw [below_one] at hc0 hc1
    have HC0 := Lib.hid hc0
    have HC1 := Lib.hid hc1
    clear hs hnil hx hc0 hc1
    go_enter Try.func12, Try.ntmps12
    go_wp2_with fail
    refine (HC0.out _ (Below.refl _ _)).mono ?_
    rintro e w1 ⟨rfl, hb1⟩
    have HB1 := Lib.hid hb1
    clear hb1
    go_wp2_with fail
    refine (HC1.out _ HB1.out).mono ?_
    rintro e w2 ⟨rfl, hb2⟩
    have HB2 := Lib.hid (HB1.out.trans (hb2.mono HB1.out.size))
    clear hb2
    go_wp2
    go_ret
    exact ⟨rfl, HB2.out⟩
end Go.Proofs.Ytmfeeeaajelfjaa
