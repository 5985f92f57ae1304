/- Contract of (*Rand).uint64n: a number below n. -/
import Derived.Test.YtmfeeeaajelfjaaSrc
import Derived.Test.YtmfeeeaajelfjaaMul
import Derived.Deep.LoopGhost
namespace Go.Proofs.Ytmfeeeaajelfjaa
open Go.RowKit

theorem and_dec {x m : Nat} (hx : x < 18446744073709551616) (h0 : 0 < m) (hm : m < 18446744073709551616) : bits .and .u64 (x : Int) ((m : Int) - 1) = ((x &&& (m - 1) : Nat) : Int) := by
  have h := bits_and_u64_nat x (m - 1) hx (by omega)
  rw [show ((m - 1 : Nat) : Int) = (m : Int) - 1 by omega] at h
  exact h
theorem pow_test {m : Nat} (h0 : 0 < m) (hm : m < 18446744073709551616) : (bits .and .u64 (m : Int) ((m : Int) - 1) == 0) = Pl.pow2 m := by
  rw [and_dec hm h0 hm, Pl.pow2_def]
  rw [Bool.eq_iff_iff]
  simp
theorem thr_eq {m : Nat} (h0 : 0 < m) (hm : m < 18446744073709551616) : (IntKind.u64.wrap (-(m : Int))).tmod (m : Int) = ((Pl.thr m : Nat) : Int) := by
  have e : IntKind.u64.wrap (-(m : Int)) = ((18446744073709551616 - m : Nat) : Int) := by rw [IntKind.wrap_u64]; omega
  rw [e, Pl.thr_def, Int.tmod_eq_emod_of_nonneg (by omega)]
  omega

set_option maxHeartbeats 1000000 in
theorem uint64n_any {X : Nat → Prop} {R L : Nat} {A : Option Addr} {n c t : Nat} {xs : List Nat} {w : World} (m : Nat) (h0 : 0 < m) (hm : m < 18446744073709551616) (h : Src X R L A n c xs w t) (ht : t < 2305843009213693952) :
    Calls Try.prog 57 #[.pointer (some ⟨R, 0, none⟩), .int .u64 m] w fun e w' => e = .returned (.int .u64 ((Pl.belowN xs m t).1 : Nat)) ∧ Src X R L A n c xs w' (Pl.belowN xs m t).2 ∧ w.grownBy w' (some L) := by
  have hx := Lib.hid h.2.2.2.2.2.2
  have H := Lib.hid h
  clear h
  have tb := pow_test h0 hm
  by_cases hp : Pl.pow2 m = true
  · rw [hp] at tb
    have e1 : Pl.belowN xs m t = (Pl.low (Pl.wd xs t) m, t + 1) := by unfold Pl.belowN; rw [if_pos hp]
    rw [e1]
    have hl := and_dec (Pl.wd_lt hx.out t) h0 hm
    rw [← Pl.low_def] at hl
    have HL := Lib.hid hl
    clear hl e1 hp
    go_enter Try.func57, Try.ntmps57
    go_wp2_with fail
    refine (src_u64 H.out (by omega)).mono ?_
    rintro e w1 ⟨rfl, h1, h2⟩
    have H1 := Lib.hid h1
    have H2 := Lib.hid h2
    clear h1 h2
    go_wp2
    go_ret
    exact ⟨ret_int HL.out, H1.out, H2.out⟩
  · have hp' : Pl.pow2 m = false := by simpa using hp
    rw [hp'] at tb
    have e1 : Pl.belowN xs m t = Pl.draw xs m t := by unfold Pl.belowN; rw [if_neg hp]
    rw [e1]
    clear e1 hp hp'
    have hmul := fun t => mul64_any (Pl.wd xs t) m (Pl.wd_lt hx.out t) hm
    have HMUL := Lib.hid hmul
    clear hmul
    go_enter Try.func57, Try.ntmps57
    go_wp2_with fail
    refine (src_u64 H.out (by omega)).mono ?_
    rintro e w1 ⟨rfl, h1, h2⟩
    have H1 := Lib.hid h1
    have H2 := Lib.hid h2
    clear h1 h2
    go_wp2_with fail
    refine (HMUL.out t _).mono ?_
    rintro e w2 ⟨rfl, rfl⟩
    by_cases hlo : Pl.mulLo (Pl.wd xs t) m < m
    · go_wp2_with fail
      rw [thr_eq h0 hm]
      have hn := H.out.2.2.2.2.2.1
      have hxl : xs.length = n := H.out.2.2.1.1
      have HXL := Lib.hid hxl
      clear hxl
      go_loopg [5, 6] (xs.length - t) (fun k hi lo wr => ∃ i : Nat, t ≤ i ∧ (i ≤ t ∨ i ≤ n) ∧ xs.length - i = k ∧ hi = .int .u64 (Pl.mulHi (Pl.wd xs i) m : Nat) ∧ lo = .int .u64 (Pl.mulLo (Pl.wd xs i) m : Nat) ∧
        Src X R L A n c xs wr (i + 1) ∧ Pl.draw xs m t = Pl.draw xs m i ∧ w.grownBy wr (some L))
      case atStart => exact ⟨t, Nat.le_refl _, .inl (Nat.le_refl _), rfl, rfl, rfl, H1.out, rfl, H2.out⟩
      case round =>
        obtain ⟨i, hi1, hi2, hk, rfl, rfl, hsrc, hdr, hg⟩ := hrel
        have HK := Lib.hid hk
        have HS := Lib.hid hsrc
        have HD := Lib.hid hdr
        have HG := Lib.hid hg
        clear hk hsrc hdr hg H1 H2
        by_cases hlt : Pl.mulLo (Pl.wd xs i) m < Pl.thr m
        · obtain ⟨q1, q2⟩ := Pl.draw_out h0 hm hlt
          have Q2 := Lib.hid q2
          clear q2
          go_wp2_with fail
          refine (src_u64 HS.out (by omega)).mono ?_
          rintro e w3 ⟨rfl, h1, h2⟩
          have H3 := Lib.hid h1
          have H4 := Lib.hid h2
          clear h1 h2
          go_wp2_with fail
          refine (HMUL.out (i + 1) _).mono ?_
          rintro e w4 ⟨rfl, rfl⟩
          go_wp2
          go_roundg (xs.length - (i + 1))
          case measure => have := HK.out; omega
          case rel => exact ⟨i + 1, by omega, .inr (by have := HXL.out; omega), rfl, rfl, rfl, H3.out, HD.out.trans Q2.out, grow_trans HG.out H4.out⟩
        · have HI := Lib.hid (Pl.draw_in (Nat.not_lt.1 hlt))
          go_wp2
          go_ret
          rw [HD.out, HI.out]
          exact ⟨rfl, HS.out, HG.out⟩
    · have hacc : Pl.thr m ≤ Pl.mulLo (Pl.wd xs t) m := by have := Pl.thr_lt h0; omega
      have HD := Lib.hid (Pl.draw_in hacc)
      clear hacc
      go_wp2
      go_ret
      rw [HD.out]
      exact ⟨rfl, H1.out, H2.out⟩
end Go.Proofs.Ytmfeeeaajelfjaa
