/- Contracts: (*Rand).Uint64N, impl.Uint64N, laws.few. -/
import Derived.Test.YtmfeeeaajelfjaaDraw
import Derived.Test.YtmfeeeaajelfjaaArr
namespace Go.Proofs.Ytmfeeeaajelfjaa
open Go.RowKit

theorem src_start {w w1 : World} {L n c : Nat} {A : Option Addr} {xs : List Nat} (hL : ListAt w1 L A n c 0) (hs : Sl w1 (fun g => ¬ (w.heap.size ≤ g ∧ g < L)) A n xs) (hn : n ≤ 2147483647) (hx : ∀ x ∈ xs, x < 18446744073709551616) :
    Src (fun g => ¬ (w.heap.size ≤ g ∧ g < L)) w1.heap.size L A n c xs (w1.alloc (.cells #[.iface 61 (.pointer (some ⟨L, 0, none⟩))] 89)) 0 := by
  have hlt := Whole.lt hL
  exact ⟨Whole.new _ _ _, Whole.alloc hL _, hs.later ((Below.refl _ _).alloc (Nat.le_refl _) _), by omega, by omega, hn, hx⟩
theorem below_src {w w1 w2 : World} {L : Nat} {o : Obj} (hb : Below w.heap.size w w1) (hg : (w1.alloc o).grownBy w2 (some L)) (hL : w.heap.size ≤ L) : Below w.heap.size w w2 :=
  (hb.alloc hb.size o).grown hg (Nat.le_trans hb.size (by simp)) (fun k hk => by injection hk with hk; omega)

set_option maxHeartbeats 400000 in
theorem few_any (A : Option Addr) (n c : Nat) (w : World) :
    Calls Try.prog 17 #[.slice A n c] w fun e w' => e = .returned (.bool (decide (n ≤ 600))) ∧ w = w' := by
  go_enter Try.func17, Try.ntmps17
  go_wp2
  go_ret
  exact ⟨by congr 2; simp; omega, rfl⟩

set_option maxHeartbeats 1000000 in
theorem uint64N_any {X : Nat → Prop} {R L : Nat} {A : Option Addr} {n c t : Nat} {xs : List Nat} {w : World} (m : Nat) (h0 : 0 < m) (hm : m < 18446744073709551616) (h : Src X R L A n c xs w t) (ht : t < 2305843009213693952) :
    Calls Try.prog 41 #[.pointer (some ⟨R, 0, none⟩), .int .u64 m] w fun e w' => e = .returned (.int .u64 ((Pl.belowN xs m t).1 : Nat)) ∧ Src X R L A n c xs w' (Pl.belowN xs m t).2 ∧ w.grownBy w' (some L) := by
  have HC := Lib.hid (uint64n_any m h0 hm h ht)
  have t0 : ((m : Int) == 0) = false := by simp; omega
  clear h
  go_enter Try.func41, Try.ntmps41
  go_wp2_with fail
  refine HC.out.mono ?_
  rintro e w1 ⟨rfl, h1, h2⟩
  have H1 := Lib.hid h1
  have H2 := Lib.hid h2
  clear h1 h2
  go_wp2
  go_ret
  exact ⟨rfl, H1.out, H2.out⟩

set_option maxHeartbeats 1000000 in
theorem implN_any (A : Option Addr) (n c m : Nat) (xs : List Nat) (w : World) (hn : n ≤ 2147483647) (hnil : A = none → n = 0) (hs : Sl w (fun _ => False) A n xs) (hx : ∀ x ∈ xs, x < 18446744073709551616) (h0 : 0 < m) (hm : m < 18446744073709551616) :
    Calls Try.prog 18 #[.slice A n c, .int .u64 m] w fun e w' => e = .returned (.tuple #[.int .u64 ((Pl.belowN xs m 0).1 : Nat), .int .i64 ((Pl.belowN xs m 0).2 : Nat)]) ∧ Below w.heap.size w w' := by
  have HX := Lib.hid hx
  have HLS := Lib.hid (listof_any A n c xs w hn hnil hs)
  clear hx hnil hs
  go_enter Try.func18, Try.ntmps18
  go_wp2_with fail
  refine HLS.out.mono ?_
  rintro e w1 ⟨L, A', c', rfl, hl, hsl, hLb, hb⟩
  have HSR := Lib.hid (src_start hl hsl hn HX.out)
  have HB := Lib.hid hb
  clear hl hsl hb
  go_wp2_with fail
  refine (new_any L _).mono ?_
  rintro e w2 ⟨rfl, rfl⟩
  go_wp2_with fail
  refine (uint64N_any m h0 hm HSR.out (by omega)).mono ?_
  rintro e w3 ⟨rfl, h1, h2⟩
  have c1 := Whole.cell h1.2.1 1
  simp at c1
  have H2 := Lib.hid h2
  clear h1 h2
  go_wp2_with fail
  go_quiet (fail)
  go_wp2
  go_ret2
  exact ⟨rfl, below_drewN (below_src HB.out H2.out hLb) _⟩

theorem few_yes {n : Nat} (h : n ≤ 600) : decide (n ≤ 600) = true := by simpa using h

end Go.Proofs.Ytmfeeeaajelfjaa
