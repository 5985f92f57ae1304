/- Contracts of bounded draws of every kind. -/
import Derived.Test.YtmfeeeaajelfjaaNumA
namespace Go.Proofs.Ytmfeeeaajelfjaa
open Go.RowKit

set_option maxHeartbeats 1000000 in
theorem kInt64N_any {X : Nat → Prop} {R L : Nat} {A : Option Addr} {n c t : Nat} {xs : List Nat} {w : World} (m : Nat) (h0 : 0 < m) (hm : m < 9223372036854775808) (h : Src X R L A n c xs w t) (ht : t < 2305843009213693952) :
    Calls Try.prog 42 #[.pointer (some ⟨R, 0, none⟩), .int .i64 m] w fun e w' => e = .returned (.int .i64 ((Pl.belowN xs m t).1 : Nat)) ∧ Src X R L A n c xs w' (Pl.belowN xs m t).2 ∧ w.grownBy w' (some L) := by
  have HC := Lib.hid (uint64n_any m h0 (by omega) h ht)
  have hlt := Pl.belowN_lt h.2.2.2.2.2.2 h0 t
  have t0 : ((m : Int) == 0) = false := by simp; omega
  have t1 : decide ((m : Int) ≤ 0) = false := by simp; omega
  clear h
  go_enter Try.func42, Try.ntmps42
  go_wp2_with fail
  refine HC.out.mono ?_
  rintro e w1 ⟨rfl, h1, h2⟩
  have H1 := Lib.hid h1
  have H2 := Lib.hid h2
  clear h1 h2
  go_wp2
  go_ret
  exact ⟨rfl, H1.out, H2.out⟩

set_option maxHeartbeats 1000000 in
theorem implInt64N_any (A : Option Addr) (n c m : Nat) (xs : List Nat) (w : World) (hn : n ≤ 2147483647) (hnil : A = none → n = 0) (hs : Sl w (fun _ => False) A n xs) (hx : ∀ x ∈ xs, x < 18446744073709551616) (h0 : 0 < m) (hm : m < 9223372036854775808) :
    Calls Try.prog 19 #[.slice A n c, .int .i64 m] w fun e w' => e = .returned (.tuple #[.int .i64 ((Pl.belowN xs m 0).1 : Nat), .int .i64 ((Pl.belowN xs m 0).2 : Nat)]) ∧ Below w.heap.size w w' := by
  have HX := Lib.hid hx
  have HLS := Lib.hid (listof_any A n c xs w hn hnil hs)
  clear hx hnil hs
  go_enter Try.func19, Try.ntmps19
  go_wp2_with fail
  refine HLS.out.mono ?_
  rintro e w1 ⟨L, A', c', rfl, hl, hsl, hLb, hb⟩
  have HSR := Lib.hid (src_start hl hsl hn HX.out)
  have HB := Lib.hid hb
  clear hl hsl hb
  go_wp2_with fail
  refine (new_any L _).mono ?_
  rintro e w2 ⟨rfl, rfl⟩
  go_wp2_with fail
  refine (kInt64N_any m h0 hm HSR.out (by omega)).mono ?_
  rintro e w3 ⟨rfl, h1, h2⟩
  have c1 := Whole.cell h1.2.1 1
  simp at c1
  have H2 := Lib.hid h2
  clear h1 h2
  go_wp2_with fail
  go_quiet (fail)
  go_wp2
  go_ret2
  exact ⟨rfl, below_drewN (below_src HB.out H2.out hLb) _⟩

set_option maxHeartbeats 1000000 in
theorem kIntN_any {X : Nat → Prop} {R L : Nat} {A : Option Addr} {n c t : Nat} {xs : List Nat} {w : World} (m : Nat) (h0 : 0 < m) (hm : m < 9223372036854775808) (h : Src X R L A n c xs w t) (ht : t < 2305843009213693952) :
    Calls Try.prog 43 #[.pointer (some ⟨R, 0, none⟩), .int .i64 m] w fun e w' => e = .returned (.int .i64 ((Pl.belowN xs m t).1 : Nat)) ∧ Src X R L A n c xs w' (Pl.belowN xs m t).2 ∧ w.grownBy w' (some L) := by
  have HC := Lib.hid (uint64n_any m h0 (by omega) h ht)
  have hlt := Pl.belowN_lt h.2.2.2.2.2.2 h0 t
  have t0 : ((m : Int) == 0) = false := by simp; omega
  have t1 : decide ((m : Int) ≤ 0) = false := by simp; omega
  clear h
  go_enter Try.func43, Try.ntmps43
  go_wp2_with fail
  refine HC.out.mono ?_
  rintro e w1 ⟨rfl, h1, h2⟩
  have H1 := Lib.hid h1
  have H2 := Lib.hid h2
  clear h1 h2
  go_wp2
  go_ret
  exact ⟨rfl, H1.out, H2.out⟩

set_option maxHeartbeats 1000000 in
theorem implIntN_any (A : Option Addr) (n c m : Nat) (xs : List Nat) (w : World) (hn : n ≤ 2147483647) (hnil : A = none → n = 0) (hs : Sl w (fun _ => False) A n xs) (hx : ∀ x ∈ xs, x < 18446744073709551616) (h0 : 0 < m) (hm : m < 9223372036854775808) :
    Calls Try.prog 20 #[.slice A n c, .int .i64 m] w fun e w' => e = .returned (.tuple #[.int .i64 ((Pl.belowN xs m 0).1 : Nat), .int .i64 ((Pl.belowN xs m 0).2 : Nat)]) ∧ Below w.heap.size w w' := by
  have HX := Lib.hid hx
  have HLS := Lib.hid (listof_any A n c xs w hn hnil hs)
  clear hx hnil hs
  go_enter Try.func20, Try.ntmps20
  go_wp2_with fail
  refine HLS.out.mono ?_
  rintro e w1 ⟨L, A', c', rfl, hl, hsl, hLb, hb⟩
  have HSR := Lib.hid (src_start hl hsl hn HX.out)
  have HB := Lib.hid hb
  clear hl hsl hb
  go_wp2_with fail
  refine (new_any L _).mono ?_
  rintro e w2 ⟨rfl, rfl⟩
  go_wp2_with fail
  refine (kIntN_any m h0 hm HSR.out (by omega)).mono ?_
  rintro e w3 ⟨rfl, h1, h2⟩
  have c1 := Whole.cell h1.2.1 1
  simp at c1
  have H2 := Lib.hid h2
  clear h1 h2
  go_wp2_with fail
  go_quiet (fail)
  go_wp2
  go_ret2
  exact ⟨rfl, below_drewN (below_src HB.out H2.out hLb) _⟩

set_option maxHeartbeats 1000000 in
theorem kUintN_any {X : Nat → Prop} {R L : Nat} {A : Option Addr} {n c t : Nat} {xs : List Nat} {w : World} (m : Nat) (h0 : 0 < m) (hm : m < 18446744073709551616) (h : Src X R L A n c xs w t) (ht : t < 2305843009213693952) :
    Calls Try.prog 44 #[.pointer (some ⟨R, 0, none⟩), .int .u64 m] w fun e w' => e = .returned (.int .u64 ((Pl.belowN xs m t).1 : Nat)) ∧ Src X R L A n c xs w' (Pl.belowN xs m t).2 ∧ w.grownBy w' (some L) := by
  have HC := Lib.hid (uint64n_any m h0 (by omega) h ht)
  have hlt := Pl.belowN_lt h.2.2.2.2.2.2 h0 t
  have t0 : ((m : Int) == 0) = false := by simp; omega
  have t1 : decide ((m : Int) ≤ 0) = false := by simp; omega
  clear h
  go_enter Try.func44, Try.ntmps44
  go_wp2_with fail
  refine HC.out.mono ?_
  rintro e w1 ⟨rfl, h1, h2⟩
  have H1 := Lib.hid h1
  have H2 := Lib.hid h2
  clear h1 h2
  go_wp2
  go_ret
  exact ⟨rfl, H1.out, H2.out⟩

set_option maxHeartbeats 1000000 in
theorem implUintN_any (A : Option Addr) (n c m : Nat) (xs : List Nat) (w : World) (hn : n ≤ 2147483647) (hnil : A = none → n = 0) (hs : Sl w (fun _ => False) A n xs) (hx : ∀ x ∈ xs, x < 18446744073709551616) (h0 : 0 < m) (hm : m < 18446744073709551616) :
    Calls Try.prog 21 #[.slice A n c, .int .u64 m] w fun e w' => e = .returned (.tuple #[.int .u64 ((Pl.belowN xs m 0).1 : Nat), .int .i64 ((Pl.belowN xs m 0).2 : Nat)]) ∧ Below w.heap.size w w' := by
  have HX := Lib.hid hx
  have HLS := Lib.hid (listof_any A n c xs w hn hnil hs)
  clear hx hnil hs
  go_enter Try.func21, Try.ntmps21
  go_wp2_with fail
  refine HLS.out.mono ?_
  rintro e w1 ⟨L, A', c', rfl, hl, hsl, hLb, hb⟩
  have HSR := Lib.hid (src_start hl hsl hn HX.out)
  have HB := Lib.hid hb
  clear hl hsl hb
  go_wp2_with fail
  refine (new_any L _).mono ?_
  rintro e w2 ⟨rfl, rfl⟩
  go_wp2_with fail
  refine (kUintN_any m h0 hm HSR.out (by omega)).mono ?_
  rintro e w3 ⟨rfl, h1, h2⟩
  have c1 := Whole.cell h1.2.1 1
  simp at c1
  have H2 := Lib.hid h2
  clear h1 h2
  go_wp2_with fail
  go_quiet (fail)
  go_wp2
  go_ret2
  exact ⟨rfl, below_drewN (below_src HB.out H2.out hLb) _⟩

set_option maxHeartbeats 1000000 in
theorem kUint32N_any {X : Nat → Prop} {R L : Nat} {A : Option Addr} {n c t : Nat} {xs : List Nat} {w : World} (m : Nat) (h0 : 0 < m) (hm : m < 4294967296) (h : Src X R L A n c xs w t) (ht : t < 2305843009213693952) :
    Calls Try.prog 52 #[.pointer (some ⟨R, 0, none⟩), .int .u32 m] w fun e w' => e = .returned (.int .u32 ((Pl.belowN xs m t).1 : Nat)) ∧ Src X R L A n c xs w' (Pl.belowN xs m t).2 ∧ w.grownBy w' (some L) := by
  have HC := Lib.hid (uint64n_any m h0 (by omega) h ht)
  have hlt := Pl.belowN_lt h.2.2.2.2.2.2 h0 t
  have t0 : ((m : Int) == 0) = false := by simp; omega
  have t1 : decide ((m : Int) ≤ 0) = false := by simp; omega
  clear h
  go_enter Try.func52, Try.ntmps52
  go_wp2_with fail
  refine HC.out.mono ?_
  rintro e w1 ⟨rfl, h1, h2⟩
  have H1 := Lib.hid h1
  have H2 := Lib.hid h2
  clear h1 h2
  go_wp2
  go_ret
  exact ⟨rfl, H1.out, H2.out⟩

set_option maxHeartbeats 1000000 in
theorem implUint32N_any (A : Option Addr) (n c m : Nat) (xs : List Nat) (w : World) (hn : n ≤ 2147483647) (hnil : A = none → n = 0) (hs : Sl w (fun _ => False) A n xs) (hx : ∀ x ∈ xs, x < 18446744073709551616) (h0 : 0 < m) (hm : m < 4294967296) :
    Calls Try.prog 33 #[.slice A n c, .int .u32 m] w fun e w' => e = .returned (.tuple #[.int .u32 ((Pl.belowN xs m 0).1 : Nat), .int .i64 ((Pl.belowN xs m 0).2 : Nat)]) ∧ Below w.heap.size w w' := by
  have HX := Lib.hid hx
  have HLS := Lib.hid (listof_any A n c xs w hn hnil hs)
  clear hx hnil hs
  go_enter Try.func33, Try.ntmps33
  go_wp2_with fail
  refine HLS.out.mono ?_
  rintro e w1 ⟨L, A', c', rfl, hl, hsl, hLb, hb⟩
  have HSR := Lib.hid (src_start hl hsl hn HX.out)
  have HB := Lib.hid hb
  clear hl hsl hb
  go_wp2_with fail
  refine (new_any L _).mono ?_
  rintro e w2 ⟨rfl, rfl⟩
  go_wp2_with fail
  refine (kUint32N_any m h0 hm HSR.out (by omega)).mono ?_
  rintro e w3 ⟨rfl, h1, h2⟩
  have c1 := Whole.cell h1.2.1 1
  simp at c1
  have H2 := Lib.hid h2
  clear h1 h2
  go_wp2_with fail
  go_quiet (fail)
  go_wp2
  go_ret2
  exact ⟨rfl, below_drewN (below_src HB.out H2.out hLb) _⟩

set_option maxHeartbeats 1000000 in
theorem kInt32N_any {X : Nat → Prop} {R L : Nat} {A : Option Addr} {n c t : Nat} {xs : List Nat} {w : World} (m : Nat) (h0 : 0 < m) (hm : m < 2147483648) (h : Src X R L A n c xs w t) (ht : t < 2305843009213693952) :
    Calls Try.prog 53 #[.pointer (some ⟨R, 0, none⟩), .int .i32 m] w fun e w' => e = .returned (.int .i32 ((Pl.belowN xs m t).1 : Nat)) ∧ Src X R L A n c xs w' (Pl.belowN xs m t).2 ∧ w.grownBy w' (some L) := by
  have HC := Lib.hid (uint64n_any m h0 (by omega) h ht)
  have hlt := Pl.belowN_lt h.2.2.2.2.2.2 h0 t
  have t0 : ((m : Int) == 0) = false := by simp; omega
  have t1 : decide ((m : Int) ≤ 0) = false := by simp; omega
  clear h
  go_enter Try.func53, Try.ntmps53
  go_wp2_with fail
  refine HC.out.mono ?_
  rintro e w1 ⟨rfl, h1, h2⟩
  have H1 := Lib.hid h1
  have H2 := Lib.hid h2
  clear h1 h2
  go_wp2
  go_ret
  exact ⟨rfl, H1.out, H2.out⟩

set_option maxHeartbeats 1000000 in
theorem implInt32N_any (A : Option Addr) (n c m : Nat) (xs : List Nat) (w : World) (hn : n ≤ 2147483647) (hnil : A = none → n = 0) (hs : Sl w (fun _ => False) A n xs) (hx : ∀ x ∈ xs, x < 18446744073709551616) (h0 : 0 < m) (hm : m < 2147483648) :
    Calls Try.prog 34 #[.slice A n c, .int .i32 m] w fun e w' => e = .returned (.tuple #[.int .i32 ((Pl.belowN xs m 0).1 : Nat), .int .i64 ((Pl.belowN xs m 0).2 : Nat)]) ∧ Below w.heap.size w w' := by
  have HX := Lib.hid hx
  have HLS := Lib.hid (listof_any A n c xs w hn hnil hs)
  clear hx hnil hs
  go_enter Try.func34, Try.ntmps34
  go_wp2_with fail
  refine HLS.out.mono ?_
  rintro e w1 ⟨L, A', c', rfl, hl, hsl, hLb, hb⟩
  have HSR := Lib.hid (src_start hl hsl hn HX.out)
  have HB := Lib.hid hb
  clear hl hsl hb
  go_wp2_with fail
  refine (new_any L _).mono ?_
  rintro e w2 ⟨rfl, rfl⟩
  go_wp2_with fail
  refine (kInt32N_any m h0 hm HSR.out (by omega)).mono ?_
  rintro e w3 ⟨rfl, h1, h2⟩
  have c1 := Whole.cell h1.2.1 1
  simp at c1
  have H2 := Lib.hid h2
  clear h1 h2
  go_wp2_with fail
  go_quiet (fail)
  go_wp2
  go_ret2
  exact ⟨rfl, below_drewN (below_src HB.out H2.out hLb) _⟩

set_option maxHeartbeats 1000000 in
theorem kN8_any {X : Nat → Prop} {R L : Nat} {A : Option Addr} {n c t : Nat} {xs : List Nat} {w : World} (m : Nat) (h0 : 0 < m) (hm : m < 128) (h : Src X R L A n c xs w t) (ht : t < 2305843009213693952) :
    Calls Try.prog 54 #[.pointer (some ⟨R, 0, none⟩), .int .i8 m] w fun e w' => e = .returned (.int .i8 ((Pl.belowN xs m t).1 : Nat)) ∧ Src X R L A n c xs w' (Pl.belowN xs m t).2 ∧ w.grownBy w' (some L) := by
  have HC := Lib.hid (uint64n_any m h0 (by omega) h ht)
  have hlt := Pl.belowN_lt h.2.2.2.2.2.2 h0 t
  have t0 : ((m : Int) == 0) = false := by simp; omega
  have t1 : decide ((m : Int) ≤ 0) = false := by simp; omega
  clear h
  go_enter Try.func54, Try.ntmps54
  go_wp2_with fail
  refine HC.out.mono ?_
  rintro e w1 ⟨rfl, h1, h2⟩
  have H1 := Lib.hid h1
  have H2 := Lib.hid h2
  clear h1 h2
  go_wp2
  go_ret
  exact ⟨rfl, H1.out, H2.out⟩

set_option maxHeartbeats 1000000 in
theorem implN8_any (A : Option Addr) (n c m : Nat) (xs : List Nat) (w : World) (hn : n ≤ 2147483647) (hnil : A = none → n = 0) (hs : Sl w (fun _ => False) A n xs) (hx : ∀ x ∈ xs, x < 18446744073709551616) (h0 : 0 < m) (hm : m < 128) :
    Calls Try.prog 35 #[.slice A n c, .int .i8 m] w fun e w' => e = .returned (.tuple #[.int .i8 ((Pl.belowN xs m 0).1 : Nat), .int .i64 ((Pl.belowN xs m 0).2 : Nat)]) ∧ Below w.heap.size w w' := by
  have HX := Lib.hid hx
  have HLS := Lib.hid (listof_any A n c xs w hn hnil hs)
  clear hx hnil hs
  go_enter Try.func35, Try.ntmps35
  go_wp2_with fail
  refine HLS.out.mono ?_
  rintro e w1 ⟨L, A', c', rfl, hl, hsl, hLb, hb⟩
  have HSR := Lib.hid (src_start hl hsl hn HX.out)
  have HB := Lib.hid hb
  clear hl hsl hb
  go_wp2_with fail
  refine (new_any L _).mono ?_
  rintro e w2 ⟨rfl, rfl⟩
  go_wp2_with fail
  refine (kN8_any m h0 hm HSR.out (by omega)).mono ?_
  rintro e w3 ⟨rfl, h1, h2⟩
  have c1 := Whole.cell h1.2.1 1
  simp at c1
  have H2 := Lib.hid h2
  clear h1 h2
  go_wp2_with fail
  go_quiet (fail)
  go_wp2
  go_ret2
  exact ⟨rfl, below_drewN (below_src HB.out H2.out hLb) _⟩

set_option maxHeartbeats 1000000 in
theorem kN16_any {X : Nat → Prop} {R L : Nat} {A : Option Addr} {n c t : Nat} {xs : List Nat} {w : World} (m : Nat) (h0 : 0 < m) (hm : m < 65536) (h : Src X R L A n c xs w t) (ht : t < 2305843009213693952) :
    Calls Try.prog 55 #[.pointer (some ⟨R, 0, none⟩), .int .u16 m] w fun e w' => e = .returned (.int .u16 ((Pl.belowN xs m t).1 : Nat)) ∧ Src X R L A n c xs w' (Pl.belowN xs m t).2 ∧ w.grownBy w' (some L) := by
  have HC := Lib.hid (uint64n_any m h0 (by omega) h ht)
  have hlt := Pl.belowN_lt h.2.2.2.2.2.2 h0 t
  have t0 : ((m : Int) == 0) = false := by simp; omega
  have t1 : decide ((m : Int) ≤ 0) = false := by simp; omega
  clear h
  go_enter Try.func55, Try.ntmps55
  go_wp2_with fail
  refine HC.out.mono ?_
  rintro e w1 ⟨rfl, h1, h2⟩
  have H1 := Lib.hid h1
  have H2 := Lib.hid h2
  clear h1 h2
  go_wp2
  go_ret
  exact ⟨rfl, H1.out, H2.out⟩

set_option maxHeartbeats 1000000 in
theorem implN16_any (A : Option Addr) (n c m : Nat) (xs : List Nat) (w : World) (hn : n ≤ 2147483647) (hnil : A = none → n = 0) (hs : Sl w (fun _ => False) A n xs) (hx : ∀ x ∈ xs, x < 18446744073709551616) (h0 : 0 < m) (hm : m < 65536) :
    Calls Try.prog 36 #[.slice A n c, .int .u16 m] w fun e w' => e = .returned (.tuple #[.int .u16 ((Pl.belowN xs m 0).1 : Nat), .int .i64 ((Pl.belowN xs m 0).2 : Nat)]) ∧ Below w.heap.size w w' := by
  have HX := Lib.hid hx
  have HLS := Lib.hid (listof_any A n c xs w hn hnil hs)
  clear hx hnil hs
  go_enter Try.func36, Try.ntmps36
  go_wp2_with fail
  refine HLS.out.mono ?_
  rintro e w1 ⟨L, A', c', rfl, hl, hsl, hLb, hb⟩
  have HSR := Lib.hid (src_start hl hsl hn HX.out)
  have HB := Lib.hid hb
  clear hl hsl hb
  go_wp2_with fail
  refine (new_any L _).mono ?_
  rintro e w2 ⟨rfl, rfl⟩
  go_wp2_with fail
  refine (kN16_any m h0 hm HSR.out (by omega)).mono ?_
  rintro e w3 ⟨rfl, h1, h2⟩
  have c1 := Whole.cell h1.2.1 1
  simp at c1
  have H2 := Lib.hid h2
  clear h1 h2
  go_wp2_with fail
  go_quiet (fail)
  go_wp2
  go_ret2
  exact ⟨rfl, below_drewN (below_src HB.out H2.out hLb) _⟩
end Go.Proofs.Ytmfeeeaajelfjaa
