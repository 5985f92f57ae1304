/- Contracts of bounded draws of every kind. -/
import Derived.Test.YtdailbjipfbdfaaNum
namespace Go.Proofs.Ytdailbjipfbdfaa
open Go.RowKit

set_option maxHeartbeats 1000000 in
theorem kUint32N_any {X : Nat → Prop} {R L : Nat} {A : Option Addr} {n c t : Nat} {xs : List Nat} {w : World} (m : Nat) (h0 : 0 < m) (hm : m < 4294967296) (h : Src X R L A n c xs w t) (ht : t < 2305843009213693952) :
    Calls Try.prog 33 #[.pointer (some ⟨R, 0, none⟩), .int .u32 m] w fun e w' => e = .returned (.int .u32 ((Pl.belowN xs m t).1 : Nat)) ∧ Src X R L A n c xs w' (Pl.belowN xs m t).2 ∧ w.grownBy w' (some L) := by
  have HC := Lib.hid (uint64n_any m h0 (by omega) h ht)
  have hlt := Pl.belowN_lt h.2.2.2.2.2.2 h0 t
  have t0 : ((m : Int) == 0) = false := by simp; omega
  have t1 : decide ((m : Int) ≤ 0) = false := by simp; omega
  clear h
  go_enter Try.func33, Try.ntmps33
  go_wp2_with fail
  refine HC.out.mono ?_
  rintro e w1 ⟨rfl, h1, h2⟩
  have H1 := Lib.hid h1
  have H2 := Lib.hid h2
  clear h1 h2
  go_wp2
  go_ret
  exact ⟨rfl, H1.out, H2.out⟩

set_option maxHeartbeats 1000000 in
theorem implUint32N_any (A : Option Addr) (n c m : Nat) (xs : List Nat) (w : World) (hn : n ≤ 2147483647) (hnil : A = none → n = 0) (hs : Sl w (fun _ => False) A n xs) (hx : ∀ x ∈ xs, x < 18446744073709551616) (h0 : 0 < m) (hm : m < 4294967296) :
    Calls Try.prog 20 #[.slice A n c, .int .u32 m] w fun e w' => e = .returned (.tuple #[.int .u32 ((Pl.belowN xs m 0).1 : Nat), .int .i64 ((Pl.belowN xs m 0).2 : Nat)]) ∧ Below w.heap.size w w' := by
  have HX := Lib.hid hx
  have HLS := Lib.hid (listof_any A n c xs w hn hnil hs)
  clear hx hnil hs
  go_enter Try.func20, Try.ntmps20
  go_wp2_with fail
  refine HLS.out.mono ?_
  rintro e w1 ⟨L, A', c', rfl, hl, hsl, hLb, hb⟩
  have HSR := Lib.hid (src_start hl hsl hn HX.out)
  have HB := Lib.hid hb
  clear hl hsl hb
  go_wp2_with fail
  refine (new_any L _).mono ?_
  rintro e w2 ⟨rfl, rfl⟩
  go_wp2_with fail
  refine (kUint32N_any m h0 hm HSR.out (by omega)).mono ?_
  rintro e w3 ⟨rfl, h1, h2⟩
  have c1 := Whole.cell h1.2.1 1
  simp at c1
  have H2 := Lib.hid h2
  clear h1 h2
  go_wp2_with fail
  go_quiet (fail)
  go_wp2
  go_ret2
  exact ⟨rfl, below_drewN (below_src HB.out H2.out hLb) _⟩
end Go.Proofs.Ytdailbjipfbdfaa
