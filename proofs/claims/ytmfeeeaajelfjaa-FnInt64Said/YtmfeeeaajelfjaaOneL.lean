/- The laws FnUint64, FnUint32, FnInt64, FnInt32 as walks. -/
import Derived.Test.YtmfeeeaajelfjaaOne
namespace Go.Proofs.Ytmfeeeaajelfjaa
open Go.RowKit

set_option maxHeartbeats 1000000 in
theorem fnUint64_true (A : Option Addr) (n c : Nat) (zs : List Int) {w : World} (hA : Arr .u64 w A n c zs) :
    Calls Try.prog 7 #[.slice A n c] w fun e w' => e = .returned (.bool true) ∧ Below w.heap.size w w' := by
  obtain ⟨xs, hs, hx, hnil⟩ := sl_of_arr hA
  clear hA
  by_cases h1 : 2147483647 < n
  · have t1 : decide ((2147483647 : Int) < (n : Int)) = true := by simp; omega
    clear hs hnil hx
    go_enter Try.func7, Try.ntmps7
    go_wp2
    go_ret
    exact ⟨rfl, Below.refl _ _⟩
  · have t1 : decide ((2147483647 : Int) < (n : Int)) = false := by simp; omega
    have hx0 := Pl.wd_lt hx 0
    have b1 := Pl.h32_lt hx0
    have b2 := Pl.h33_lt hx0
    have b3 := Pl.m63_lt (Pl.wd xs 0)
    have HC0 := Lib.hid (fun (W : World) (hb : Below w.heap.size w W) => implUint64_any A n c xs W (by omega) hnil (hs.later hb) hx)
    have HC1 := Lib.hid (fun (W : World) (hb : Below w.heap.size w W) => implUint_any A n c xs W (by omega) hnil (hs.later hb) hx)
    have HF := Lib.hid (fun (W : World) (hb : Below w.heap.size w W) => first_any A n c xs W (by omega) (hs.later hb))
    clear hs hnil hx
    go_enter Try.func7, Try.ntmps7
    go_wp2_with fail
    refine (HC0.out _ (Below.refl _ _)).mono ?_
    rintro e w1 ⟨rfl, hb1⟩
    have HB1 := Lib.hid hb1
    clear hb1
    go_wp2_with fail
    refine (HC1.out _ HB1.out).mono ?_
    rintro e w2 ⟨rfl, hb2⟩
    have HB2 := Lib.hid (HB1.out.trans (hb2.mono HB1.out.size))
    clear hb2
    go_wp2_with fail
    refine (HF.out _ HB2.out).mono ?_
    rintro e wf ⟨rfl, hbf⟩
    have HBF := Lib.hid (HB2.out.trans (hbf.mono HB2.out.size))
    clear hbf
    go_wp2
    go_ret
    exact ⟨rfl, HBF.out⟩

set_option maxHeartbeats 1000000 in
theorem fnUint32_true (A : Option Addr) (n c : Nat) (zs : List Int) {w : World} (hA : Arr .u64 w A n c zs) :
    Calls Try.prog 5 #[.slice A n c] w fun e w' => e = .returned (.bool true) ∧ Below w.heap.size w w' := by
  obtain ⟨xs, hs, hx, hnil⟩ := sl_of_arr hA
  clear hA
  by_cases h1 : 2147483647 < n
  · have t1 : decide ((2147483647 : Int) < (n : Int)) = true := by simp; omega
    clear hs hnil hx
    go_enter Try.func5, Try.ntmps5
    go_wp2
    go_ret
    exact ⟨rfl, Below.refl _ _⟩
  · have t1 : decide ((2147483647 : Int) < (n : Int)) = false := by simp; omega
    have hx0 := Pl.wd_lt hx 0
    have b1 := Pl.h32_lt hx0
    have b2 := Pl.h33_lt hx0
    have b3 := Pl.m63_lt (Pl.wd xs 0)
    have HC0 := Lib.hid (fun (W : World) (hb : Below w.heap.size w W) => implUint32_any A n c xs W (by omega) hnil (hs.later hb) hx)
    have HF := Lib.hid (fun (W : World) (hb : Below w.heap.size w W) => first_any A n c xs W (by omega) (hs.later hb))
    have e1 := div32 (Pl.wd xs 0)
    clear hs hnil hx
    go_enter Try.func5, Try.ntmps5
    go_wp2_with fail
    refine (HC0.out _ (Below.refl _ _)).mono ?_
    rintro e w1 ⟨rfl, hb1⟩
    have HB1 := Lib.hid hb1
    clear hb1
    go_wp2_with fail
    refine (HF.out _ HB1.out).mono ?_
    rintro e wf ⟨rfl, hbf⟩
    have HBF := Lib.hid (HB1.out.trans (hbf.mono HB1.out.size))
    clear hbf
    go_wp2
    go_ret
    exact ⟨rfl, HBF.out⟩

set_option maxHeartbeats 1000000 in
theorem fnInt32_true (A : Option Addr) (n c : Nat) (zs : List Int) {w : World} (hA : Arr .u64 w A n c zs) :
    Calls Try.prog 3 #[.slice A n c] w fun e w' => e = .returned (.bool true) ∧ Below w.heap.size w w' := by
  obtain ⟨xs, hs, hx, hnil⟩ := sl_of_arr hA
  clear hA
  by_cases h1 : 2147483647 < n
  · have t1 : decide ((2147483647 : Int) < (n : Int)) = true := by simp; omega
    clear hs hnil hx
    go_enter Try.func3, Try.ntmps3
    go_wp2
    go_ret
    exact ⟨rfl, Below.refl _ _⟩
  · have t1 : decide ((2147483647 : Int) < (n : Int)) = false := by simp; omega
    have hx0 := Pl.wd_lt hx 0
    have b1 := Pl.h32_lt hx0
    have b2 := Pl.h33_lt hx0
    have b3 := Pl.m63_lt (Pl.wd xs 0)
    have HC0 := Lib.hid (fun (W : World) (hb : Below w.heap.size w W) => implInt32_any A n c xs W (by omega) hnil (hs.later hb) hx)
    have HF := Lib.hid (fun (W : World) (hb : Below w.heap.size w W) => first_any A n c xs W (by omega) (hs.later hb))
    have e1 := div33 (Pl.wd xs 0)
    clear hs hnil hx
    go_enter Try.func3, Try.ntmps3
    go_wp2_with fail
    refine (HC0.out _ (Below.refl _ _)).mono ?_
    rintro e w1 ⟨rfl, hb1⟩
    have HB1 := Lib.hid hb1
    clear hb1
    go_wp2_with fail
    refine (HF.out _ HB1.out).mono ?_
    rintro e wf ⟨rfl, hbf⟩
    have HBF := Lib.hid (HB1.out.trans (hbf.mono HB1.out.size))
    clear hbf
    go_wp2
    go_ret
    exact ⟨rfl, HBF.out⟩

set_option maxHeartbeats 1000000 in
theorem fnInt64_true (A : Option Addr) (n c : Nat) (zs : List Int) {w : World} (hA : Arr .u64 w A n c zs) :
    Calls Try.prog 10 #[.slice A n c] w fun e w' => e = .returned (.bool true) ∧ Below w.heap.size w w' := by
  obtain ⟨xs, hs, hx, hnil⟩ := sl_of_arr hA
  clear hA
  by_cases h1 : 2147483647 < n
  · have t1 : decide ((2147483647 : Int) < (n : Int)) = true := by simp; omega
    clear hs hnil hx
    go_enter Try.func10, Try.ntmps10
    go_wp2
    go_ret
    exact ⟨rfl, Below.refl _ _⟩
  · have t1 : decide ((2147483647 : Int) < (n : Int)) = false := by simp; omega
    have hx0 := Pl.wd_lt hx 0
    have b1 := Pl.h32_lt hx0
    have b2 := Pl.h33_lt hx0
    have b3 := Pl.m63_lt (Pl.wd xs 0)
    have HC0 := Lib.hid (fun (W : World) (hb : Below w.heap.size w W) => implInt64_any A n c xs W (by omega) hnil (hs.later hb) hx)
    have HC1 := Lib.hid (fun (W : World) (hb : Below w.heap.size w W) => implInt_any A n c xs W (by omega) hnil (hs.later hb) hx)
    have HF := Lib.hid (fun (W : World) (hb : Below w.heap.size w W) => first_any A n c xs W (by omega) (hs.later hb))
    have e1 := and63 (Pl.wd xs 0) hx0
    have e2 : decide ((0 : Int) ≤ ((Pl.m63 (Pl.wd xs 0) : Nat) : Int)) = true := by simp
    clear hs hnil hx
    go_enter Try.func10, Try.ntmps10
    go_wp2_with fail
    refine (HC0.out _ (Below.refl _ _)).mono ?_
    rintro e w1 ⟨rfl, hb1⟩
    have HB1 := Lib.hid hb1
    clear hb1
    go_wp2_with fail
    refine (HC1.out _ HB1.out).mono ?_
    rintro e w2 ⟨rfl, hb2⟩
    have HB2 := Lib.hid (HB1.out.trans (hb2.mono HB1.out.size))
    clear hb2
    go_wp2_with fail
    refine (HF.out _ HB2.out).mono ?_
    rintro e wf ⟨rfl, hbf⟩
    have HBF := Lib.hid (HB2.out.trans (hbf.mono HB2.out.size))
    clear hbf
    go_wp2
    go_ret
    exact ⟨rfl, HBF.out⟩
end Go.Proofs.Ytmfeeeaajelfjaa
