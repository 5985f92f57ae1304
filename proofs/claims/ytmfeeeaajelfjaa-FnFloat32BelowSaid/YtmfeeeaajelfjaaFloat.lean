/- Contracts of (*Rand).Float64, Float32, impl.Float64, Float32; the laws over them as walks. -/
import Derived.Test.YtmfeeeaajelfjaaOne
import Derived.Test.YtmfeeeaajelfjaaFloatP
import Derived.Laws.Externs
namespace Go.Proofs.Ytmfeeeaajelfjaa
open Go.RowKit

namespace Pl
noncomputable def m53 : Nat → Nat := (Classical.choice (lock_ex (α := Nat → Nat) (fun x => x % 9007199254740992))).1
theorem m53_def (x : Nat) : m53 x = x % 9007199254740992 := congrFun ((Classical.choice (lock_ex (α := Nat → Nat) (fun x => x % 9007199254740992))).2) x
noncomputable def m24 : Nat → Nat := (Classical.choice (lock_ex (α := Nat → Nat) (fun x => x % 16777216))).1
theorem m24_def (x : Nat) : m24 x = x % 16777216 := congrFun ((Classical.choice (lock_ex (α := Nat → Nat) (fun x => x % 16777216))).2) x
theorem m53_lt (x : Nat) : m53 x < 9007199254740992 := by rw [m53_def]; omega
theorem m24_lt (x : Nat) : m24 x < 16777216 := by rw [m24_def]; omega
end Pl

theorem shl53 (x : Nat) (_hx : x < 18446744073709551616) : IntKind.u64.wrap ((x : Int) * 2048) / 2048 = ((Pl.m53 x : Nat) : Int) := by
  rw [IntKind.wrap_u64, Pl.m53_def]
  omega
theorem shl24 (x : Nat) (_hx : x < 4294967296) : (x : Int) * 256 % 4294967296 / 256 = ((Pl.m24 x : Nat) : Int) := by
  rw [Pl.m24_def]
  omega
theorem and53 (x : Nat) (hx : x < 18446744073709551616) : bits .and .u64 (x : Int) 9007199254740991 = ((Pl.m53 x : Nat) : Int) := by
  have h := bits_and_u64_nat x 9007199254740991 hx (by omega)
  rw [Pl.m53_def]
  have e : x &&& 9007199254740991 = x % 9007199254740992 := Nat.and_two_pow_sub_one_eq_mod x 53
  rw [e] at h
  exact h
theorem and24 (x : Nat) (hx : x < 18446744073709551616) : bits .and .u64 (x : Int) 16777215 = ((Pl.m24 x : Nat) : Int) := by
  have h := bits_and_u64_nat x 16777215 hx (by omega)
  rw [Pl.m24_def]
  have e : x &&& 16777215 = x % 16777216 := Nat.and_two_pow_sub_one_eq_mod x 24
  rw [e] at h
  exact h

theorem of_nat (k : FloatKind) (y : Nat) : floatOfInt k (y : Int) = k.format.nearest false y 0 := by
  unfold floatOfInt FloatKind.nearest FloatKind.encode
  have h : decide ((y : Int) < 0) = false := by simp
  rw [h]
  simp [Ieee.Format.write]

theorem fl64_ex (y : Nat) : ∃ r, y < 9007199254740992 → floatBits .quo .f64 (floatOfInt .f64 (y : Int)) 4845873199050653696 = some r ∧ r < 4607182418800017408 := by
  by_cases h : y < 9007199254740992
  · obtain ⟨r, h1, h2⟩ := drawn_float fmt64 (x := y) (by exact h)
    refine ⟨r, fun _ => ⟨?_, by exact h2⟩⟩
    rw [of_nat]
    exact h1
  · exact ⟨0, fun h' => absurd h' h⟩
noncomputable def fl64 (y : Nat) : Nat := Classical.choose (fl64_ex y)
theorem fl64_quo {y : Nat} (h : y < 9007199254740992) : floatBits .quo .f64 (floatOfInt .f64 (y : Int)) 4845873199050653696 = some (fl64 y) := (Classical.choose_spec (fl64_ex y) h).1
theorem fl64_lt {y : Nat} (h : y < 9007199254740992) : fl64 y < 4607182418800017408 := (Classical.choose_spec (fl64_ex y) h).2
theorem fl64_geq {y : Nat} (h : y < 9007199254740992) : (FloatKind.f64.format.order (fl64 y) 0 == some .gt || FloatKind.f64.format.order (fl64 y) 0 == some .eq) = true := by
  rcases order_zero fmt64 (r := fl64 y) (fl64_lt h) with e | e
  · have e' : FloatKind.f64.format.order (fl64 y) 0 = some .gt := e
    rw [e']; rfl
  · have e' : FloatKind.f64.format.order (fl64 y) 0 = some .eq := e
    rw [e']; rfl
theorem fl64_lss {y : Nat} (h : y < 9007199254740992) : (FloatKind.f64.format.order (fl64 y) 4607182418800017408 == some .lt) = true := by
  have e : FloatKind.f64.format.order (fl64 y) 4607182418800017408 = some .lt := order_one fmt64 (r := fl64 y) (fl64_lt h)
  rw [e]; rfl
theorem bits64 (r : Nat) (w : World) : (callFunc 24 #[.float .f64 r]).run Try.prog w = .ok (.value (.int .u64 r)) w :=
  (run_callFunc_extern Try.func24 (by kernel_rfl) (by kernel_rfl) (by kernel_rfl) (e := Extern.MathFloatBits.float64bits) (by kernel_rfl) _ w).trans rfl
theorem frombits64 (r : Nat) (w : World) : (callFunc 29 #[.int .u64 (r : Nat)]).run Try.prog w = .ok (.value (.float .f64 r)) w :=
  (run_callFunc_extern Try.func29 (by kernel_rfl) (by kernel_rfl) (by kernel_rfl) (e := Extern.MathFloatBits.float64frombits) (by kernel_rfl) _ w).trans rfl
theorem quo64 {y : Nat} (h : y < 9007199254740992) (t : TypeId) (w : World) : (binOp .quo t (.float .f64 (floatOfInt .f64 (y : Int))) (.float .f64 4845873199050653696)).run Try.prog w = .ok (.float .f64 (fl64 y)) w :=
  run_float_arith w .quo t .f64 _ _ _ (fl64_quo h)
theorem conv64 (y : Nat) (w : World) : (convert 25 43 (.int .u64 (y : Int))).run Try.prog w = .ok (.float .f64 (floatOfInt .f64 (y : Int))) w :=
  run_convert_int_float w _ _ _ _ _ (by kernel_rfl) Try.underlying43

theorem fl32_ex (y : Nat) : ∃ r, y < 16777216 → floatBits .quo .f32 (floatOfInt .f32 (y : Int)) 1266679808 = some r ∧ r < 1065353216 := by
  by_cases h : y < 16777216
  · obtain ⟨r, h1, h2⟩ := drawn_float fmt32 (x := y) (by exact h)
    refine ⟨r, fun _ => ⟨?_, by exact h2⟩⟩
    rw [of_nat]
    exact h1
  · exact ⟨0, fun h' => absurd h' h⟩
noncomputable def fl32 (y : Nat) : Nat := Classical.choose (fl32_ex y)
theorem fl32_quo {y : Nat} (h : y < 16777216) : floatBits .quo .f32 (floatOfInt .f32 (y : Int)) 1266679808 = some (fl32 y) := (Classical.choose_spec (fl32_ex y) h).1
theorem fl32_lt {y : Nat} (h : y < 16777216) : fl32 y < 1065353216 := (Classical.choose_spec (fl32_ex y) h).2
theorem fl32_geq {y : Nat} (h : y < 16777216) : (FloatKind.f32.format.order (fl32 y) 0 == some .gt || FloatKind.f32.format.order (fl32 y) 0 == some .eq) = true := by
  rcases order_zero fmt32 (r := fl32 y) (fl32_lt h) with e | e
  · have e' : FloatKind.f32.format.order (fl32 y) 0 = some .gt := e
    rw [e']; rfl
  · have e' : FloatKind.f32.format.order (fl32 y) 0 = some .eq := e
    rw [e']; rfl
theorem fl32_lss {y : Nat} (h : y < 16777216) : (FloatKind.f32.format.order (fl32 y) 1065353216 == some .lt) = true := by
  have e : FloatKind.f32.format.order (fl32 y) 1065353216 = some .lt := order_one fmt32 (r := fl32 y) (fl32_lt h)
  rw [e]; rfl
theorem bits32 (r : Nat) (w : World) : (callFunc 28 #[.float .f32 r]).run Try.prog w = .ok (.value (.int .u32 r)) w :=
  (run_callFunc_extern Try.func28 (by kernel_rfl) (by kernel_rfl) (by kernel_rfl) (e := Extern.MathFloatBits.float32bits) (by kernel_rfl) _ w).trans rfl
theorem frombits32 (r : Nat) (w : World) : (callFunc 32 #[.int .u32 (r : Nat)]).run Try.prog w = .ok (.value (.float .f32 r)) w :=
  (run_callFunc_extern Try.func32 (by kernel_rfl) (by kernel_rfl) (by kernel_rfl) (e := Extern.MathFloatBits.float32frombits) (by kernel_rfl) _ w).trans rfl
theorem quo32 {y : Nat} (h : y < 16777216) (t : TypeId) (w : World) : (binOp .quo t (.float .f32 (floatOfInt .f32 (y : Int))) (.float .f32 1266679808)).run Try.prog w = .ok (.float .f32 (fl32 y)) w :=
  run_float_arith w .quo t .f32 _ _ _ (fl32_quo h)
theorem conv32 (y : Nat) (w : World) : (convert 38 46 (.int .u32 (y : Int))).run Try.prog w = .ok (.float .f32 (floatOfInt .f32 (y : Int))) w :=
  run_convert_int_float w _ _ _ _ _ (by kernel_rfl) Try.underlying46

theorem conv32x (y : Nat) (w : World) : (convert 25 46 (.int .u64 (y : Int))).run Try.prog w = .ok (.float .f32 (floatOfInt .f32 (y : Int))) w :=
  run_convert_int_float w _ _ _ _ _ (by kernel_rfl) Try.underlying46

set_option maxHeartbeats 1000000 in
theorem mFloat64_any {X : Nat → Prop} {R L : Nat} {A : Option Addr} {n c t : Nat} {xs : List Nat} {w : World} (h : Src X R L A n c xs w t) (ht : t < 4611686018427387904) :
    Calls Try.prog 46 #[.pointer (some ⟨R, 0, none⟩)] w fun e w' => e = .returned (.float .f64 (fl64 (Pl.m53 (Pl.wd xs t)))) ∧ Src X R L A n c xs w' (t + 1) ∧ w.grownBy w' (some L) := by
  have hx := Pl.wd_lt h.2.2.2.2.2.2 t
  have HC := Lib.hid (src_u64 h ht)
  have b1 := Pl.h32_lt hx
  have b2 := Pl.m53_lt (Pl.wd xs t)
  have b3 := Pl.m24_lt (Pl.h32 (Pl.wd xs t))
  have E1 := Lib.hid (shl53 (Pl.wd xs t) hx)
  have E2 := Lib.hid (shl24 (Pl.h32 (Pl.wd xs t)) b1)
  clear h
  go_enter Try.func46, Try.ntmps46
  go_wp2_with fail
  refine HC.out.mono ?_
  rintro e w1 ⟨rfl, h1, h2⟩
  have H1 := Lib.hid h1
  have H2 := Lib.hid h2
  clear h1 h2
  have e1 := E1.out
  have e2 := E2.out
  have q1 := conv64 (Pl.m53 (Pl.wd xs t))
  have q2 := fun T W => quo64 (y := Pl.m53 (Pl.wd xs t)) (by omega) T W
  go_wp2
  go_ret
  exact ⟨rfl, H1.out, H2.out⟩

set_option maxHeartbeats 1000000 in
theorem implFloat64_any (A : Option Addr) (n c : Nat) (xs : List Nat) (w : World) (hn : n ≤ 2147483647) (hnil : A = none → n = 0) (hs : Sl w (fun _ => False) A n xs) (hx : ∀ x ∈ xs, x < 18446744073709551616) :
    Calls Try.prog 23 #[.slice A n c] w fun e w' => e = .returned (.tuple #[.int .u64 (fl64 (Pl.m53 (Pl.wd xs 0)) : Nat), .int .i64 1]) ∧ Below w.heap.size w w' := by
  have HX := Lib.hid hx
  have HLS := Lib.hid (listof_any A n c xs w hn hnil hs)
  have hbits := fun W => bits64 (fl64 (Pl.m53 (Pl.wd xs 0))) W
  clear hx hnil hs
  go_enter Try.func23, Try.ntmps23
  go_wp2_with fail
  refine HLS.out.mono ?_
  rintro e w1 ⟨L, A', c', rfl, hl, hsl, hLb, hb⟩
  have HSR := Lib.hid (src_start hl hsl hn HX.out)
  have HB := Lib.hid hb
  clear hl hsl hb
  go_wp2_with fail
  refine (new_any L _).mono ?_
  rintro e w2 ⟨rfl, rfl⟩
  go_wp2_with fail
  refine (mFloat64_any HSR.out (by omega)).mono ?_
  rintro e w3 ⟨rfl, h1, h2⟩
  have c1 := Whole.cell h1.2.1 1
  simp at c1
  have H2 := Lib.hid h2
  clear h1 h2
  go_wp2_with fail
  go_quiet (fail)
  go_wp2
  go_ret2
  exact ⟨rfl, below_drewN (below_src HB.out H2.out hLb) _⟩

set_option maxHeartbeats 1000000 in
theorem mFloat32_any {X : Nat → Prop} {R L : Nat} {A : Option Addr} {n c t : Nat} {xs : List Nat} {w : World} (h : Src X R L A n c xs w t) (ht : t < 4611686018427387904) :
    Calls Try.prog 49 #[.pointer (some ⟨R, 0, none⟩)] w fun e w' => e = .returned (.float .f32 (fl32 (Pl.m24 (Pl.h32 (Pl.wd xs t))))) ∧ Src X R L A n c xs w' (t + 1) ∧ w.grownBy w' (some L) := by
  have hx := Pl.wd_lt h.2.2.2.2.2.2 t
  have HC := Lib.hid (mUint32_any h ht)
  have b1 := Pl.h32_lt hx
  have b2 := Pl.m53_lt (Pl.wd xs t)
  have b3 := Pl.m24_lt (Pl.h32 (Pl.wd xs t))
  have E1 := Lib.hid (shl53 (Pl.wd xs t) hx)
  have E2 := Lib.hid (shl24 (Pl.h32 (Pl.wd xs t)) b1)
  clear h
  go_enter Try.func49, Try.ntmps49
  go_wp2_with fail
  refine HC.out.mono ?_
  rintro e w1 ⟨rfl, h1, h2⟩
  have H1 := Lib.hid h1
  have H2 := Lib.hid h2
  clear h1 h2
  have e1 := E1.out
  have e2 := E2.out
  have q1 := conv32 (Pl.m24 (Pl.h32 (Pl.wd xs t)))
  have q2 := fun T W => quo32 (y := Pl.m24 (Pl.h32 (Pl.wd xs t))) (by omega) T W
  go_wp2
  go_ret
  exact ⟨rfl, H1.out, H2.out⟩

set_option maxHeartbeats 1000000 in
theorem implFloat32_any (A : Option Addr) (n c : Nat) (xs : List Nat) (w : World) (hn : n ≤ 2147483647) (hnil : A = none → n = 0) (hs : Sl w (fun _ => False) A n xs) (hx : ∀ x ∈ xs, x < 18446744073709551616) :
    Calls Try.prog 27 #[.slice A n c] w fun e w' => e = .returned (.tuple #[.int .u32 (fl32 (Pl.m24 (Pl.h32 (Pl.wd xs 0))) : Nat), .int .i64 1]) ∧ Below w.heap.size w w' := by
  have HX := Lib.hid hx
  have HLS := Lib.hid (listof_any A n c xs w hn hnil hs)
  have hbits := fun W => bits32 (fl32 (Pl.m24 (Pl.h32 (Pl.wd xs 0)))) W
  clear hx hnil hs
  go_enter Try.func27, Try.ntmps27
  go_wp2_with fail
  refine HLS.out.mono ?_
  rintro e w1 ⟨L, A', c', rfl, hl, hsl, hLb, hb⟩
  have HSR := Lib.hid (src_start hl hsl hn HX.out)
  have HB := Lib.hid hb
  clear hl hsl hb
  go_wp2_with fail
  refine (new_any L _).mono ?_
  rintro e w2 ⟨rfl, rfl⟩
  go_wp2_with fail
  refine (mFloat32_any HSR.out (by omega)).mono ?_
  rintro e w3 ⟨rfl, h1, h2⟩
  have c1 := Whole.cell h1.2.1 1
  simp at c1
  have H2 := Lib.hid h2
  clear h1 h2
  go_wp2_with fail
  go_quiet (fail)
  go_wp2
  go_ret2
  exact ⟨rfl, below_drewN (below_src HB.out H2.out hLb) _⟩

set_option maxHeartbeats 1000000 in
theorem fnFloat64_true (A : Option Addr) (n c : Nat) (zs : List Int) {w : World} (hA : Arr .u64 w A n c zs) :
    Calls Try.prog 6 #[.slice A n c] w fun e w' => e = .returned (.bool true) ∧ Below w.heap.size w w' := by
  obtain ⟨xs, hs, hx, hnil⟩ := sl_of_arr hA
  clear hA
  by_cases h1 : 2147483647 < n
  · have t1 : decide ((2147483647 : Int) < (n : Int)) = true := by simp; omega
    clear hs hnil hx
    go_enter Try.func6, Try.ntmps6
    go_wp2
    go_ret
    exact ⟨rfl, Below.refl _ _⟩
  · have t1 : decide ((2147483647 : Int) < (n : Int)) = false := by simp; omega
    have hx0 := Pl.wd_lt hx 0
    have b1 := Pl.h32_lt hx0
    have b2 := Pl.m53_lt (Pl.wd xs 0)
    have b3 := Pl.m24_lt (Pl.h32 (Pl.wd xs 0))
    have HC0 := Lib.hid (implFloat64_any A n c xs w (by omega) hnil hs hx)
    have HF := Lib.hid (fun (W : World) (hb : Below w.heap.size w W) => first_any A n c xs W (by omega) (hs.later hb))
    have E1 := Lib.hid (and53 (Pl.wd xs 0) hx0)
    have E2 := Lib.hid (and24 (Pl.h32 (Pl.wd xs 0)) (by omega))
    have E3 := Lib.hid (div32 (Pl.wd xs 0))
    have q0 : (((fl64 (Pl.m53 (Pl.wd xs 0)) : Nat) : Int) == ((fl64 (Pl.m53 (Pl.wd xs 0)) : Nat) : Int)) = true := by simp
    have q1 := conv64 (Pl.m53 (Pl.wd xs 0))
    have q2 := fun T W => quo64 (y := Pl.m53 (Pl.wd xs 0)) (by omega) T W
    have q3 := fun W => bits64 (fl64 (Pl.m53 (Pl.wd xs 0))) W
    clear hs hnil hx
    go_enter Try.func6, Try.ntmps6
    go_wp2_with fail
    refine HC0.out.mono ?_
    rintro e w1 ⟨rfl, hb1⟩
    have HB1 := Lib.hid hb1
    clear hb1
    go_wp2_with fail
    refine (HF.out _ HB1.out).mono ?_
    rintro e wf ⟨rfl, hbf⟩
    have HBF := Lib.hid (HB1.out.trans (hbf.mono HB1.out.size))
    clear hbf
    have e1 := E1.out
    have e2 := E2.out
    have e3 := E3.out
    go_wp2
    go_ret
    exact ⟨rfl, HBF.out⟩

set_option maxHeartbeats 1000000 in
theorem fnFloat64Below_true (A : Option Addr) (n c : Nat) (zs : List Int) {w : World} (hA : Arr .u64 w A n c zs) :
    Calls Try.prog 9 #[.slice A n c] w fun e w' => e = .returned (.bool true) ∧ Below w.heap.size w w' := by
  obtain ⟨xs, hs, hx, hnil⟩ := sl_of_arr hA
  clear hA
  by_cases h1 : 2147483647 < n
  · have t1 : decide ((2147483647 : Int) < (n : Int)) = true := by simp; omega
    clear hs hnil hx
    go_enter Try.func9, Try.ntmps9
    go_wp2
    go_ret
    exact ⟨rfl, Below.refl _ _⟩
  · have t1 : decide ((2147483647 : Int) < (n : Int)) = false := by simp; omega
    have hx0 := Pl.wd_lt hx 0
    have b1 := Pl.h32_lt hx0
    have b2 := Pl.m53_lt (Pl.wd xs 0)
    have b3 := Pl.m24_lt (Pl.h32 (Pl.wd xs 0))
    have HC0 := Lib.hid (implFloat64_any A n c xs w (by omega) hnil hs hx)
    have q1 := fl64_geq (y := Pl.m53 (Pl.wd xs 0)) (by omega)
    have q2 := fl64_lss (y := Pl.m53 (Pl.wd xs 0)) (by omega)
    have q3 := fun W => frombits64 (fl64 (Pl.m53 (Pl.wd xs 0))) W
    clear hs hnil hx
    go_enter Try.func9, Try.ntmps9
    go_wp2_with fail
    refine HC0.out.mono ?_
    rintro e w1 ⟨rfl, hb1⟩
    have HB1 := Lib.hid hb1
    clear hb1
    go_wp2
    go_ret
    exact ⟨rfl, HB1.out⟩

set_option maxHeartbeats 1000000 in
theorem fnFloat32_true (A : Option Addr) (n c : Nat) (zs : List Int) {w : World} (hA : Arr .u64 w A n c zs) :
    Calls Try.prog 8 #[.slice A n c] w fun e w' => e = .returned (.bool true) ∧ Below w.heap.size w w' := by
  obtain ⟨xs, hs, hx, hnil⟩ := sl_of_arr hA
  clear hA
  by_cases h1 : 2147483647 < n
  · have t1 : decide ((2147483647 : Int) < (n : Int)) = true := by simp; omega
    clear hs hnil hx
    go_enter Try.func8, Try.ntmps8
    go_wp2
    go_ret
    exact ⟨rfl, Below.refl _ _⟩
  · have t1 : decide ((2147483647 : Int) < (n : Int)) = false := by simp; omega
    have hx0 := Pl.wd_lt hx 0
    have b1 := Pl.h32_lt hx0
    have b2 := Pl.m53_lt (Pl.wd xs 0)
    have b3 := Pl.m24_lt (Pl.h32 (Pl.wd xs 0))
    have HC0 := Lib.hid (implFloat32_any A n c xs w (by omega) hnil hs hx)
    have HF := Lib.hid (fun (W : World) (hb : Below w.heap.size w W) => first_any A n c xs W (by omega) (hs.later hb))
    have E1 := Lib.hid (and53 (Pl.wd xs 0) hx0)
    have E2 := Lib.hid (and24 (Pl.h32 (Pl.wd xs 0)) (by omega))
    have E3 := Lib.hid (div32 (Pl.wd xs 0))
    have q0 : (((fl32 (Pl.m24 (Pl.h32 (Pl.wd xs 0))) : Nat) : Int) == ((fl32 (Pl.m24 (Pl.h32 (Pl.wd xs 0))) : Nat) : Int)) = true := by simp
    have q1 := conv32x (Pl.m24 (Pl.h32 (Pl.wd xs 0)))
    have q2 := fun T W => quo32 (y := Pl.m24 (Pl.h32 (Pl.wd xs 0))) (by omega) T W
    have q3 := fun W => bits32 (fl32 (Pl.m24 (Pl.h32 (Pl.wd xs 0)))) W
    clear hs hnil hx
    go_enter Try.func8, Try.ntmps8
    go_wp2_with fail
    refine HC0.out.mono ?_
    rintro e w1 ⟨rfl, hb1⟩
    have HB1 := Lib.hid hb1
    clear hb1
    go_wp2_with fail
    refine (HF.out _ HB1.out).mono ?_
    rintro e wf ⟨rfl, hbf⟩
    have HBF := Lib.hid (HB1.out.trans (hbf.mono HB1.out.size))
    clear hbf
    have e1 := E1.out
    have e2 := E2.out
    have e3 := E3.out
    go_wp2
    go_ret
    exact ⟨rfl, HBF.out⟩

set_option maxHeartbeats 1000000 in
theorem fnFloat32Below_true (A : Option Addr) (n c : Nat) (zs : List Int) {w : World} (hA : Arr .u64 w A n c zs) :
    Calls Try.prog 11 #[.slice A n c] w fun e w' => e = .returned (.bool true) ∧ Below w.heap.size w w' := by
  obtain ⟨xs, hs, hx, hnil⟩ := sl_of_arr hA
  clear hA
  by_cases h1 : 2147483647 < n
  · have t1 : decide ((2147483647 : Int) < (n : Int)) = true := by simp; omega
    clear hs hnil hx
    go_enter Try.func11, Try.ntmps11
    go_wp2
    go_ret
    exact ⟨rfl, Below.refl _ _⟩
  · have t1 : decide ((2147483647 : Int) < (n : Int)) = false := by simp; omega
    have hx0 := Pl.wd_lt hx 0
    have b1 := Pl.h32_lt hx0
    have b2 := Pl.m53_lt (Pl.wd xs 0)
    have b3 := Pl.m24_lt (Pl.h32 (Pl.wd xs 0))
    have HC0 := Lib.hid (implFloat32_any A n c xs w (by omega) hnil hs hx)
    have q1 := fl32_geq (y := Pl.m24 (Pl.h32 (Pl.wd xs 0))) (by omega)
    have q2 := fl32_lss (y := Pl.m24 (Pl.h32 (Pl.wd xs 0))) (by omega)
    have q3 := fun W => frombits32 (fl32 (Pl.m24 (Pl.h32 (Pl.wd xs 0)))) W
    clear hs hnil hx
    go_enter Try.func11, Try.ntmps11
    go_wp2_with fail
    refine HC0.out.mono ?_
    rintro e w1 ⟨rfl, hb1⟩
    have HB1 := Lib.hid hb1
    clear hb1
    go_wp2
    go_ret
    exact ⟨rfl, HB1.out⟩
end Go.Proofs.Ytmfeeeaajelfjaa
