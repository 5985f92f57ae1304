/- Contracts of the methods that take one word, and of the functions over them. -/
import Derived.Test.YtmfeeeaajelfjaaNumA
import Derived.Test.YtmfeeeaajelfjaaSNext
import Derived.Test.YtmfeeeaajelfjaaPlainS
namespace Go.Proofs.Ytmfeeeaajelfjaa
open Go.RowKit

theorem andNot63 (x : Nat) (hx : x < 18446744073709551616) : bits .andNot .u64 (x : Int) 9223372036854775808 = ((Pl.m63 x : Nat) : Int) := by
  have h := u64_andNot_nat x 9223372036854775808 hx (by omega)
  rw [Pl.m63_def]
  have e : x &&& (18446744073709551615 - 9223372036854775808) = x % 9223372036854775808 := Nat.and_two_pow_sub_one_eq_mod x 63
  rw [e] at h
  exact h
theorem and63 (x : Nat) (hx : x < 18446744073709551616) : bits .and .u64 (x : Int) 9223372036854775807 = ((Pl.m63 x : Nat) : Int) := by
  have h := bits_and_u64_nat x 9223372036854775807 hx (by omega)
  rw [Pl.m63_def]
  have e : x &&& 9223372036854775807 = x % 9223372036854775808 := Nat.and_two_pow_sub_one_eq_mod x 63
  rw [e] at h
  exact h
theorem shl63 (x : Nat) (_hx : x < 18446744073709551616) : IntKind.u64.wrap ((x : Int) * 2) / 2 = ((Pl.m63 x : Nat) : Int) := by
  rw [IntKind.wrap_u64, Pl.m63_def]
  omega
theorem div32 (x : Nat) : (x : Int) / 4294967296 = ((Pl.h32 x : Nat) : Int) := by rw [Pl.h32_def]; omega
theorem div33 (x : Nat) : (x : Int) / 8589934592 = ((Pl.h33 x : Nat) : Int) := by rw [Pl.h33_def]; omega

theorem src_list {X : Nat → Prop} {R L : Nat} {A : Option Addr} {n c t : Nat} {xs : List Nat} {w : World} (h : Src X R L A n c xs w t) (ht : t < 4611686018427387904) :
    Calls Try.prog 77 #[.pointer (some ⟨L, 0, none⟩)] w fun e w' => e = .returned (.int .u64 (Pl.wd xs t : Nat)) ∧ Src X R L A n c xs w' (t + 1) ∧ w.grownBy w' (some L) :=
  (listu_any X L A n c t xs w ht h.2.1 h.2.2.1 h.2.2.2.2.2.1).mono fun _ _ ⟨he, hl, hg⟩ => ⟨he, h.next hl hg, hg⟩

set_option maxHeartbeats 1000000 in
theorem implUint64_any (A : Option Addr) (n c : Nat) (xs : List Nat) (w : World) (hn : n ≤ 2147483647) (hnil : A = none → n = 0) (hs : Sl w (fun _ => False) A n xs) (hx : ∀ x ∈ xs, x < 18446744073709551616) :
    Calls Try.prog 25 #[.slice A n c] w fun e w' => e = .returned (.tuple #[.int .u64 (Pl.wd xs 0 : Nat), .int .i64 1]) ∧ Below w.heap.size w w' := by
  have HX := Lib.hid hx
  have HLS := Lib.hid (listof_any A n c xs w hn hnil hs)
  clear hx hnil hs
  go_enter Try.func25, Try.ntmps25
  go_wp2_with fail
  refine HLS.out.mono ?_
  rintro e w1 ⟨L, A', c', rfl, hl, hsl, hLb, hb⟩
  have HSR := Lib.hid (src_start hl hsl hn HX.out)
  have HB := Lib.hid hb
  clear hl hsl hb
  go_wp2_with fail
  refine (new_any L _).mono ?_
  rintro e w2 ⟨rfl, rfl⟩
  go_wp2_with fail
  refine (src_u64 HSR.out (by omega)).mono ?_
  rintro e w3 ⟨rfl, h1, h2⟩
  have c1 := Whole.cell h1.2.1 1
  simp at c1
  have H2 := Lib.hid h2
  clear h1 h2
  go_wp2_with fail
  go_quiet (fail)
  go_wp2
  go_ret2
  exact ⟨rfl, below_drewN (below_src HB.out H2.out hLb) _⟩

set_option maxHeartbeats 1000000 in
theorem mUint_any {X : Nat → Prop} {R L : Nat} {A : Option Addr} {n c t : Nat} {xs : List Nat} {w : World} (h : Src X R L A n c xs w t) (ht : t < 4611686018427387904) :
    Calls Try.prog 48 #[.pointer (some ⟨R, 0, none⟩)] w fun e w' => e = .returned (.int .u64 (Pl.wd xs t : Nat)) ∧ Src X R L A n c xs w' (t + 1) ∧ w.grownBy w' (some L) := by
  have h0 := Whole.cell h.1 0
  simp at h0
  have hx := Pl.wd_lt h.2.2.2.2.2.2 t
  have HC := Lib.hid (src_list h ht)
  have E1 := Lib.hid (div32 (Pl.wd xs t))
  have E2 := Lib.hid (div33 (Pl.wd xs t))
  have E3 := Lib.hid (shl63 (Pl.wd xs t) hx)
  have E4 := Lib.hid (andNot63 (Pl.wd xs t) hx)
  have b1 := Pl.h32_lt hx
  have b2 := Pl.h33_lt hx
  have b3 := Pl.m63_lt (Pl.wd xs t)
  clear h
  go_enter Try.func48, Try.ntmps48
  go_wp2_with fail
  refine HC.out.mono ?_
  rintro e w1 ⟨rfl, h1, h2⟩
  have H1 := Lib.hid h1
  have H2 := Lib.hid h2
  clear h1 h2
  have e1 := E1.out
  have e2 := E2.out
  have e3 := E3.out
  have e4 := E4.out
  clear E1 E2 E3 E4
  go_wp2
  go_ret
  exact ⟨rfl, H1.out, H2.out⟩

set_option maxHeartbeats 1000000 in
theorem implUint_any (A : Option Addr) (n c : Nat) (xs : List Nat) (w : World) (hn : n ≤ 2147483647) (hnil : A = none → n = 0) (hs : Sl w (fun _ => False) A n xs) (hx : ∀ x ∈ xs, x < 18446744073709551616) :
    Calls Try.prog 26 #[.slice A n c] w fun e w' => e = .returned (.tuple #[.int .u64 (Pl.wd xs 0 : Nat), .int .i64 1]) ∧ Below w.heap.size w w' := by
  have HX := Lib.hid hx
  have HLS := Lib.hid (listof_any A n c xs w hn hnil hs)
  clear hx hnil hs
  go_enter Try.func26, Try.ntmps26
  go_wp2_with fail
  refine HLS.out.mono ?_
  rintro e w1 ⟨L, A', c', rfl, hl, hsl, hLb, hb⟩
  have HSR := Lib.hid (src_start hl hsl hn HX.out)
  have HB := Lib.hid hb
  clear hl hsl hb
  go_wp2_with fail
  refine (new_any L _).mono ?_
  rintro e w2 ⟨rfl, rfl⟩
  go_wp2_with fail
  refine (mUint_any HSR.out (by omega)).mono ?_
  rintro e w3 ⟨rfl, h1, h2⟩
  have c1 := Whole.cell h1.2.1 1
  simp at c1
  have H2 := Lib.hid h2
  clear h1 h2
  go_wp2_with fail
  go_quiet (fail)
  go_wp2
  go_ret2
  exact ⟨rfl, below_drewN (below_src HB.out H2.out hLb) _⟩

set_option maxHeartbeats 1000000 in
theorem mUint32_any {X : Nat → Prop} {R L : Nat} {A : Option Addr} {n c t : Nat} {xs : List Nat} {w : World} (h : Src X R L A n c xs w t) (ht : t < 4611686018427387904) :
    Calls Try.prog 45 #[.pointer (some ⟨R, 0, none⟩)] w fun e w' => e = .returned (.int .u32 (Pl.h32 (Pl.wd xs t) : Nat)) ∧ Src X R L A n c xs w' (t + 1) ∧ w.grownBy w' (some L) := by
  have h0 := Whole.cell h.1 0
  simp at h0
  have hx := Pl.wd_lt h.2.2.2.2.2.2 t
  have HC := Lib.hid (src_list h ht)
  have E1 := Lib.hid (div32 (Pl.wd xs t))
  have E2 := Lib.hid (div33 (Pl.wd xs t))
  have E3 := Lib.hid (shl63 (Pl.wd xs t) hx)
  have E4 := Lib.hid (andNot63 (Pl.wd xs t) hx)
  have b1 := Pl.h32_lt hx
  have b2 := Pl.h33_lt hx
  have b3 := Pl.m63_lt (Pl.wd xs t)
  clear h
  go_enter Try.func45, Try.ntmps45
  go_wp2_with fail
  refine HC.out.mono ?_
  rintro e w1 ⟨rfl, h1, h2⟩
  have H1 := Lib.hid h1
  have H2 := Lib.hid h2
  clear h1 h2
  have e1 := E1.out
  have e2 := E2.out
  have e3 := E3.out
  have e4 := E4.out
  clear E1 E2 E3 E4
  go_wp2
  go_ret
  exact ⟨rfl, H1.out, H2.out⟩

set_option maxHeartbeats 1000000 in
theorem implUint32_any (A : Option Addr) (n c : Nat) (xs : List Nat) (w : World) (hn : n ≤ 2147483647) (hnil : A = none → n = 0) (hs : Sl w (fun _ => False) A n xs) (hx : ∀ x ∈ xs, x < 18446744073709551616) :
    Calls Try.prog 22 #[.slice A n c] w fun e w' => e = .returned (.tuple #[.int .u32 (Pl.h32 (Pl.wd xs 0) : Nat), .int .i64 1]) ∧ Below w.heap.size w w' := by
  have HX := Lib.hid hx
  have HLS := Lib.hid (listof_any A n c xs w hn hnil hs)
  clear hx hnil hs
  go_enter Try.func22, Try.ntmps22
  go_wp2_with fail
  refine HLS.out.mono ?_
  rintro e w1 ⟨L, A', c', rfl, hl, hsl, hLb, hb⟩
  have HSR := Lib.hid (src_start hl hsl hn HX.out)
  have HB := Lib.hid hb
  clear hl hsl hb
  go_wp2_with fail
  refine (new_any L _).mono ?_
  rintro e w2 ⟨rfl, rfl⟩
  go_wp2_with fail
  refine (mUint32_any HSR.out (by omega)).mono ?_
  rintro e w3 ⟨rfl, h1, h2⟩
  have c1 := Whole.cell h1.2.1 1
  simp at c1
  have H2 := Lib.hid h2
  clear h1 h2
  go_wp2_with fail
  go_quiet (fail)
  go_wp2
  go_ret2
  exact ⟨rfl, below_drewN (below_src HB.out H2.out hLb) _⟩

set_option maxHeartbeats 1000000 in
theorem mInt32_any {X : Nat → Prop} {R L : Nat} {A : Option Addr} {n c t : Nat} {xs : List Nat} {w : World} (h : Src X R L A n c xs w t) (ht : t < 4611686018427387904) :
    Calls Try.prog 39 #[.pointer (some ⟨R, 0, none⟩)] w fun e w' => e = .returned (.int .i32 (Pl.h33 (Pl.wd xs t) : Nat)) ∧ Src X R L A n c xs w' (t + 1) ∧ w.grownBy w' (some L) := by
  have h0 := Whole.cell h.1 0
  simp at h0
  have hx := Pl.wd_lt h.2.2.2.2.2.2 t
  have HC := Lib.hid (src_list h ht)
  have E1 := Lib.hid (div32 (Pl.wd xs t))
  have E2 := Lib.hid (div33 (Pl.wd xs t))
  have E3 := Lib.hid (shl63 (Pl.wd xs t) hx)
  have E4 := Lib.hid (andNot63 (Pl.wd xs t) hx)
  have b1 := Pl.h32_lt hx
  have b2 := Pl.h33_lt hx
  have b3 := Pl.m63_lt (Pl.wd xs t)
  clear h
  go_enter Try.func39, Try.ntmps39
  go_wp2_with fail
  refine HC.out.mono ?_
  rintro e w1 ⟨rfl, h1, h2⟩
  have H1 := Lib.hid h1
  have H2 := Lib.hid h2
  clear h1 h2
  have e1 := E1.out
  have e2 := E2.out
  have e3 := E3.out
  have e4 := E4.out
  clear E1 E2 E3 E4
  go_wp2
  go_ret
  exact ⟨rfl, H1.out, H2.out⟩

set_option maxHeartbeats 1000000 in
theorem implInt32_any (A : Option Addr) (n c : Nat) (xs : List Nat) (w : World) (hn : n ≤ 2147483647) (hnil : A = none → n = 0) (hs : Sl w (fun _ => False) A n xs) (hx : ∀ x ∈ xs, x < 18446744073709551616) :
    Calls Try.prog 15 #[.slice A n c] w fun e w' => e = .returned (.tuple #[.int .i32 (Pl.h33 (Pl.wd xs 0) : Nat), .int .i64 1]) ∧ Below w.heap.size w w' := by
  have HX := Lib.hid hx
  have HLS := Lib.hid (listof_any A n c xs w hn hnil hs)
  clear hx hnil hs
  go_enter Try.func15, Try.ntmps15
  go_wp2_with fail
  refine HLS.out.mono ?_
  rintro e w1 ⟨L, A', c', rfl, hl, hsl, hLb, hb⟩
  have HSR := Lib.hid (src_start hl hsl hn HX.out)
  have HB := Lib.hid hb
  clear hl hsl hb
  go_wp2_with fail
  refine (new_any L _).mono ?_
  rintro e w2 ⟨rfl, rfl⟩
  go_wp2_with fail
  refine (mInt32_any HSR.out (by omega)).mono ?_
  rintro e w3 ⟨rfl, h1, h2⟩
  have c1 := Whole.cell h1.2.1 1
  simp at c1
  have H2 := Lib.hid h2
  clear h1 h2
  go_wp2_with fail
  go_quiet (fail)
  go_wp2
  go_ret2
  exact ⟨rfl, below_drewN (below_src HB.out H2.out hLb) _⟩

set_option maxHeartbeats 1000000 in
theorem mInt64_any {X : Nat → Prop} {R L : Nat} {A : Option Addr} {n c t : Nat} {xs : List Nat} {w : World} (h : Src X R L A n c xs w t) (ht : t < 4611686018427387904) :
    Calls Try.prog 50 #[.pointer (some ⟨R, 0, none⟩)] w fun e w' => e = .returned (.int .i64 (Pl.m63 (Pl.wd xs t) : Nat)) ∧ Src X R L A n c xs w' (t + 1) ∧ w.grownBy w' (some L) := by
  have h0 := Whole.cell h.1 0
  simp at h0
  have hx := Pl.wd_lt h.2.2.2.2.2.2 t
  have HC := Lib.hid (src_list h ht)
  have E1 := Lib.hid (div32 (Pl.wd xs t))
  have E2 := Lib.hid (div33 (Pl.wd xs t))
  have E3 := Lib.hid (shl63 (Pl.wd xs t) hx)
  have E4 := Lib.hid (andNot63 (Pl.wd xs t) hx)
  have b1 := Pl.h32_lt hx
  have b2 := Pl.h33_lt hx
  have b3 := Pl.m63_lt (Pl.wd xs t)
  clear h
  go_enter Try.func50, Try.ntmps50
  go_wp2_with fail
  refine HC.out.mono ?_
  rintro e w1 ⟨rfl, h1, h2⟩
  have H1 := Lib.hid h1
  have H2 := Lib.hid h2
  clear h1 h2
  have e1 := E1.out
  have e2 := E2.out
  have e3 := E3.out
  have e4 := E4.out
  clear E1 E2 E3 E4
  go_wp2
  go_ret
  exact ⟨rfl, H1.out, H2.out⟩

set_option maxHeartbeats 1000000 in
theorem implInt64_any (A : Option Addr) (n c : Nat) (xs : List Nat) (w : World) (hn : n ≤ 2147483647) (hnil : A = none → n = 0) (hs : Sl w (fun _ => False) A n xs) (hx : ∀ x ∈ xs, x < 18446744073709551616) :
    Calls Try.prog 30 #[.slice A n c] w fun e w' => e = .returned (.tuple #[.int .i64 (Pl.m63 (Pl.wd xs 0) : Nat), .int .i64 1]) ∧ Below w.heap.size w w' := by
  have HX := Lib.hid hx
  have HLS := Lib.hid (listof_any A n c xs w hn hnil hs)
  clear hx hnil hs
  go_enter Try.func30, Try.ntmps30
  go_wp2_with fail
  refine HLS.out.mono ?_
  rintro e w1 ⟨L, A', c', rfl, hl, hsl, hLb, hb⟩
  have HSR := Lib.hid (src_start hl hsl hn HX.out)
  have HB := Lib.hid hb
  clear hl hsl hb
  go_wp2_with fail
  refine (new_any L _).mono ?_
  rintro e w2 ⟨rfl, rfl⟩
  go_wp2_with fail
  refine (mInt64_any HSR.out (by omega)).mono ?_
  rintro e w3 ⟨rfl, h1, h2⟩
  have c1 := Whole.cell h1.2.1 1
  simp at c1
  have H2 := Lib.hid h2
  clear h1 h2
  go_wp2_with fail
  go_quiet (fail)
  go_wp2
  go_ret2
  exact ⟨rfl, below_drewN (below_src HB.out H2.out hLb) _⟩

set_option maxHeartbeats 1000000 in
theorem mInt_any {X : Nat → Prop} {R L : Nat} {A : Option Addr} {n c t : Nat} {xs : List Nat} {w : World} (h : Src X R L A n c xs w t) (ht : t < 4611686018427387904) :
    Calls Try.prog 51 #[.pointer (some ⟨R, 0, none⟩)] w fun e w' => e = .returned (.int .i64 (Pl.m63 (Pl.wd xs t) : Nat)) ∧ Src X R L A n c xs w' (t + 1) ∧ w.grownBy w' (some L) := by
  have h0 := Whole.cell h.1 0
  simp at h0
  have hx := Pl.wd_lt h.2.2.2.2.2.2 t
  have HC := Lib.hid (src_list h ht)
  have E1 := Lib.hid (div32 (Pl.wd xs t))
  have E2 := Lib.hid (div33 (Pl.wd xs t))
  have E3 := Lib.hid (shl63 (Pl.wd xs t) hx)
  have E4 := Lib.hid (andNot63 (Pl.wd xs t) hx)
  have b1 := Pl.h32_lt hx
  have b2 := Pl.h33_lt hx
  have b3 := Pl.m63_lt (Pl.wd xs t)
  clear h
  go_enter Try.func51, Try.ntmps51
  go_wp2_with fail
  refine HC.out.mono ?_
  rintro e w1 ⟨rfl, h1, h2⟩
  have H1 := Lib.hid h1
  have H2 := Lib.hid h2
  clear h1 h2
  have e1 := E1.out
  have e2 := E2.out
  have e3 := E3.out
  have e4 := E4.out
  clear E1 E2 E3 E4
  go_wp2
  go_ret
  exact ⟨rfl, H1.out, H2.out⟩

set_option maxHeartbeats 1000000 in
theorem implInt_any (A : Option Addr) (n c : Nat) (xs : List Nat) (w : World) (hn : n ≤ 2147483647) (hnil : A = none → n = 0) (hs : Sl w (fun _ => False) A n xs) (hx : ∀ x ∈ xs, x < 18446744073709551616) :
    Calls Try.prog 31 #[.slice A n c] w fun e w' => e = .returned (.tuple #[.int .i64 (Pl.m63 (Pl.wd xs 0) : Nat), .int .i64 1]) ∧ Below w.heap.size w w' := by
  have HX := Lib.hid hx
  have HLS := Lib.hid (listof_any A n c xs w hn hnil hs)
  clear hx hnil hs
  go_enter Try.func31, Try.ntmps31
  go_wp2_with fail
  refine HLS.out.mono ?_
  rintro e w1 ⟨L, A', c', rfl, hl, hsl, hLb, hb⟩
  have HSR := Lib.hid (src_start hl hsl hn HX.out)
  have HB := Lib.hid hb
  clear hl hsl hb
  go_wp2_with fail
  refine (new_any L _).mono ?_
  rintro e w2 ⟨rfl, rfl⟩
  go_wp2_with fail
  refine (mInt_any HSR.out (by omega)).mono ?_
  rintro e w3 ⟨rfl, h1, h2⟩
  have c1 := Whole.cell h1.2.1 1
  simp at c1
  have H2 := Lib.hid h2
  clear h1 h2
  go_wp2_with fail
  go_quiet (fail)
  go_wp2
  go_ret2
  exact ⟨rfl, below_drewN (below_src HB.out H2.out hLb) _⟩

set_option maxHeartbeats 1000000 in
theorem first_any (A : Option Addr) (n c : Nat) (xs : List Nat) (w : World) (hn : n ≤ 2147483647) (hs : Sl w (fun _ => False) A n xs) :
    Calls Try.prog 16 #[.slice A n c] w fun e w' => e = .returned (.int .u64 (Pl.wd xs 0 : Nat)) ∧ Below w.heap.size w w' := by
  have hs1 : Sl (w.alloc (.cells #[.slice A n c, .int .i64 0] 69)) (fun g => g = w.heap.size) A n xs := by
    refine ⟨hs.1, fun h0 => ?_⟩
    obtain ⟨g, o, e, _, hc⟩ := hs.2 h0
    refine ⟨g, o, e, fun hg => ?_, fun i hi => cell_later ((Below.refl _ _).alloc (Nat.le_refl _) _) (hc i hi)⟩
    have := World.block_lt_of_cell? _ _ (hc 0 h0)
    simp at this
    omega
  have HC := Lib.hid (snext_any (fun g => g = w.heap.size) w.heap.size A n c 0 xs _ (by omega) (Whole.new _ _ _) hs1 rfl hn)
  clear hs hs1
  go_enter Try.func16, Try.ntmps16
  go_wp2_with fail
  refine HC.out.mono ?_
  rintro e w1 ⟨rfl, _, h2⟩
  have H2 := Lib.hid h2
  clear h2
  go_wp2
  go_ret
  exact ⟨rfl, below_src (Below.refl _ _) H2.out (Nat.le_refl _)⟩
end Go.Proofs.Ytmfeeeaajelfjaa
