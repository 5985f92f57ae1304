/- The laws FnShuffle, FnPerm as walks. -/
import Derived.Test.YtdailbjipfbdfaaShuffled
import Derived.Test.YtdailbjipfbdfaaIsPerm
namespace Go.Proofs.Ytdailbjipfbdfaa
open Go.RowKit

theorem idl_len (m : Nat) : (idl m).length = m := by simp [idl]

set_option maxHeartbeats 1000000 in
theorem fnShuffle_go (A B : Option Addr) (n c m d : Nat) (xs : List Nat) (ys : List Int) (w : World) (hn : n ≤ 600) (hnil : A = none → n = 0) (hs : Sl w (fun _ => False) A n xs) (hx : ∀ x ∈ xs, x < 18446744073709551616)
    (hm : m ≤ 400) (hy : ISl w B m ys) :
    Calls Try.prog 11 #[.slice A n c, .slice B m d] w fun e w' => e = .returned (.bool true) ∧ Below w.heap.size w w' := by
  have d6 := few_yes hn
  have u1 : decide ((2147483647 : Int) < (n : Int)) = false := by simp; omega
  have u2 : decide ((2147483647 : Int) < (m : Int)) = false := by simp; omega
  have u3 : decide ((400 : Int) < (m : Int)) = false := by simp; omega
  have f5 := eq_self (shuf xs m ys 0).2
  have hba : Below w.heap.size w (w.alloc (.cells #[.slice A n c, .int .i64 0] 41)) := (Below.refl _ _).alloc (Nat.le_refl _) _
  have HC := Lib.hid (fun (W : World) (hb : Below w.heap.size w W) => implShuffle_any A B n c m d xs ys W (by omega) hnil (hs.later hb) hx (by omega) (hy.later hb))
  have HS := Lib.hid (shuffled_any B m d ys w.heap.size (by omega) (srcT_from A n c xs w (by omega) hs hx) (fun _ h => h) (Nat.le_refl _) (by simp) (hy.later hba))
  have HBA := Lib.hid hba
  clear hs hnil hx hy hba
  go_enter Try.func11, Try.ntmps11
  go_wp2_with (go_at_call 14; refine (few_any _ _ _ _).mono ?_; rintro e w' ⟨rfl, rfl⟩)
  refine HS.out.mono ?_
  rintro e w1 ⟨A1, c1, rfl, h1, h2, h3⟩
  have c0 := Whole.cell h2.1 1
  simp at c0
  have H1 := Lib.hid h1
  have HB1 := Lib.hid (HBA.out.trans h3)
  clear h1 h2 h3
  go_wp2_with fail
  refine (HC.out _ HB1.out).mono ?_
  rintro e w2 ⟨A2, c2, rfl, hi2, hb2⟩
  have d0 := cell_later hb2 c0
  have HI2 := Lib.hid hi2
  have H2 := Lib.hid (H1.out.later hb2)
  have HB2 := Lib.hid (HB1.out.trans (hb2.mono HB1.out.size))
  clear hi2 hb2 c0
  go_wp2_with fail
  refine (alike_any A2 A1 m c2 c1 _ _ (by omega) HI2.out H2.out).mono ?_
  rintro e w3 ⟨rfl, q, rfl⟩
  have d1 : (w2.drewN q).cell? ⟨w.heap.size, 1, none⟩ = some (.int .i64 ((shuf xs m ys 0).2 : Nat)) := d0
  clear d0
  go_wp2
  go_ret
  exact ⟨rfl, below_drewN HB2.out _⟩

set_option maxHeartbeats 1000000 in
theorem fnShuffle_true (A : Option Addr) (n c : Nat) (zs : List Int) {w : World} (hA : Arr .u64 w A n c zs) (B : Option Addr) (m d : Nat) (ys : List Int) (hB : Arr .i64 w B m d ys) :
    Calls Try.prog 11 #[.slice A n c, .slice B m d] w fun e w' => e = .returned (.bool true) ∧ Below w.heap.size w w' := by
  obtain ⟨xs, hs, hx, hnil⟩ := sl_of_arr hA
  have hmx : n ≤ maxLen := Nat.le_trans hA.2.1 hA.2.2.1
  have hmy : m ≤ maxLen := Nat.le_trans hB.2.1 hB.2.2.1
  unfold maxLen at hmx hmy
  by_cases h1 : n ≤ 600 ∧ m ≤ 400
  · exact fnShuffle_go A B n c m d xs ys w h1.1 hnil hs hx h1.2 (isl_of_arr hB)
  · clear hs hnil hA hB hx
    by_cases t1 : 2147483647 < n
    · have u1 : decide ((2147483647 : Int) < (n : Int)) = true := by simp; omega
      go_enter Try.func11, Try.ntmps11
      go_wp2
      go_ret
      exact ⟨rfl, Below.refl _ _⟩
    · have u1 : decide ((2147483647 : Int) < (n : Int)) = false := by simp; omega
      by_cases t2 : 2147483647 < m
      · have u2 : decide ((2147483647 : Int) < (m : Int)) = true := by simp; omega
        go_enter Try.func11, Try.ntmps11
        go_wp2
        go_ret
        exact ⟨rfl, Below.refl _ _⟩
      · have u2 : decide ((2147483647 : Int) < (m : Int)) = false := by simp; omega
        by_cases h6 : n ≤ 600
        · have d6 := few_yes h6
          have u3 : decide ((400 : Int) < (m : Int)) = true := by simp; omega
          go_enter Try.func11, Try.ntmps11
          go_wp2_with (go_at_call 14; refine (few_any _ _ _ _).mono ?_; rintro e w' ⟨rfl, rfl⟩)
          go_ret
          exact ⟨rfl, Below.refl _ _⟩
        · have d6 : decide (n ≤ 600) = false := by simpa using h6
          go_enter Try.func11, Try.ntmps11
          go_wp2_with (go_at_call 14; refine (few_any _ _ _ _).mono ?_; rintro e w' ⟨rfl, rfl⟩)
          go_ret
          exact ⟨rfl, Below.refl _ _⟩

set_option maxHeartbeats 1000000 in
theorem fnPerm_go (A : Option Addr) (n c u m : Nat) (xs : List Nat) (w : World) (hn : n ≤ 600) (hnil : A = none → n = 0) (hs : Sl w (fun _ => False) A n xs) (hx : ∀ x ∈ xs, x < 18446744073709551616)
    (hm : m ≤ 4096) (hv : (u : Int) % 401 = (m : Int)) :
    Calls Try.prog 12 #[.slice A n c, .int .u16 u] w fun e w' => e = .returned (.bool true) ∧ Below w.heap.size w w' := by
  have d6 := few_yes hn
  have u1 : decide ((2147483647 : Int) < (n : Int)) = false := by simp; omega
  have f5 := eq_self (shuf xs m (idl m) 0).2
  have hba : Below w.heap.size w (w.alloc (.cells #[.slice A n c, .int .i64 0] 41)) := (Below.refl _ _).alloc (Nat.le_refl _) _
  have HC := Lib.hid (fun (W : World) (hb : Below w.heap.size w W) => implPerm_any A n c m xs W (by omega) hnil (hs.later hb) hx (by omega))
  have HSR := Lib.hid (srcT_from A n c xs w (by omega) hs hx)
  have HBA := Lib.hid hba
  clear hs hnil hx hba
  go_enter Try.func12, Try.ntmps12
  go_wp2_with (go_at_call 14; refine (few_any _ _ _ _).mono ?_; rintro e w' ⟨rfl, rfl⟩)
  refine (numbers_any m _ hm).mono ?_
  rintro e w0 ⟨A0, cc0, rfl, hi0, hn0, hb0⟩
  have HB0 := Lib.hid (HBA.out.trans (hb0.mono (by simp)))
  have HS := Lib.hid (shuffled_any A0 m cc0 (idl m) w.heap.size hm (HSR.out.later hb0) (fun _ h => h) (Nat.le_refl _) HB0.out.size hi0)
  clear hi0 hn0 hb0
  go_wp2_with fail
  refine HS.out.mono ?_
  rintro e w1 ⟨A1, c1, rfl, h1, h2, h3⟩
  have c0 := Whole.cell h2.1 1
  simp at c0
  have H1 := Lib.hid h1
  have HB1 := Lib.hid (HB0.out.trans h3)
  clear h1 h2 h3
  go_wp2_with fail
  refine (HC.out _ HB1.out).mono ?_
  rintro e w2 ⟨A2, c2, rfl, hi2, hb2⟩
  have d0 := cell_later hb2 c0
  have HI2 := Lib.hid hi2
  have H2 := Lib.hid (H1.out.later hb2)
  have HB2 := Lib.hid (HB1.out.trans (hb2.mono HB1.out.size))
  clear hi2 hb2 c0
  go_wp2_with fail
  refine (alike_any A2 A1 m c2 c1 _ _ (by omega) HI2.out H2.out).mono ?_
  rintro e w3 ⟨rfl, q, rfl⟩
  have d1 : (w2.drewN q).cell? ⟨w.heap.size, 1, none⟩ = some (.int .i64 ((shuf xs m (idl m) 0).2 : Nat)) := d0
  clear d0
  go_wp2
  go_ret
  exact ⟨rfl, below_drewN HB2.out _⟩

set_option maxHeartbeats 1000000 in
theorem fnPerm_true (A : Option Addr) (n c : Nat) (zs : List Int) {w : World} (hA : Arr .u64 w A n c zs) (u : Nat) (_hu : u < 65536) :
    Calls Try.prog 12 #[.slice A n c, .int .u16 u] w fun e w' => e = .returned (.bool true) ∧ Below w.heap.size w w' := by
  obtain ⟨xs, hs, hx, hnil⟩ := sl_of_arr hA
  have hmx : n ≤ maxLen := Nat.le_trans hA.2.1 hA.2.2.1
  unfold maxLen at hmx
  by_cases h6 : n ≤ 600
  · exact fnPerm_go A n c u (u % 401) xs w h6 hnil hs hx (by omega) (by omega)
  · clear hA hs hnil hx
    by_cases t1 : 2147483647 < n
    · have u1 : decide ((2147483647 : Int) < (n : Int)) = true := by simp; omega
      go_enter Try.func12, Try.ntmps12
      go_wp2
      go_ret
      exact ⟨rfl, Below.refl _ _⟩
    · have u1 : decide ((2147483647 : Int) < (n : Int)) = false := by simp; omega
      have d6 : decide (n ≤ 600) = false := by simpa using h6
      go_enter Try.func12, Try.ntmps12
      go_wp2_with (go_at_call 14; refine (few_any _ _ _ _).mono ?_; rintro e w' ⟨rfl, rfl⟩)
      go_ret
      exact ⟨rfl, Below.refl _ _⟩
end Go.Proofs.Ytdailbjipfbdfaa
