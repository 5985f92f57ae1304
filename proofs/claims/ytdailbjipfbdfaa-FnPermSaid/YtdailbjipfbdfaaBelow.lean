/- Contract of the reference's (*Source).Below64: a number below n. -/
import Derived.Test.YtdailbjipfbdfaaSNext
import Derived.Test.YtdailbjipfbdfaaProd
import Derived.Test.YtdailbjipfbdfaaDraw
namespace Go.Proofs.Ytdailbjipfbdfaa
open Go.RowKit

/-- A source of words of which t are taken, and what its words are. -/
def SrcT (X : Nat → Prop) (b : Nat) (A : Option Addr) (n c : Nat) (xs : List Nat) (w : World) (t : Nat) : Prop :=
  SrcS w b A n c t ∧ Sl w X A n xs ∧ X b ∧ n ≤ 2147483647 ∧ ∀ x ∈ xs, x < 18446744073709551616
theorem SrcT.later {X : Nat → Prop} {b : Nat} {A : Option Addr} {n c t : Nat} {xs : List Nat} {w w' : World} (h : SrcT X b A n c xs w t) (hb : Below w.heap.size w w') : SrcT X b A n c xs w' t :=
  ⟨Whole.below h.1 hb (Whole.lt h.1), h.2.1.later hb, h.2.2⟩
theorem srcT_next {X : Nat → Prop} {b : Nat} {A : Option Addr} {n c t : Nat} {xs : List Nat} {w : World} (h : SrcT X b A n c xs w t) (ht : t < 4611686018427387904) :
    Calls Try.prog 32 #[.pointer (some ⟨b, 0, none⟩)] w fun e w' => e = .returned (.int .u64 (Pl.wd xs t : Nat)) ∧ SrcT X b A n c xs w' (t + 1) ∧ w.grownBy w' (some b) :=
  (snext_any X b A n c t xs w ht h.1 h.2.1 h.2.2.1 h.2.2.2.1).mono fun _ _ ⟨he, hl, hg⟩ => ⟨he, ⟨hl, h.2.1.grown hg h.2.2.1, h.2.2⟩, hg⟩

set_option maxHeartbeats 2000000 in
theorem below64_any {X : Nat → Prop} {b : Nat} {A : Option Addr} {n c t : Nat} {xs : List Nat} {w : World} (m : Nat) (h0 : 0 < m) (hm : m < 18446744073709551616) (h : SrcT X b A n c xs w t) (ht : t < 2305843009213693952) :
    Calls Try.prog 19 #[.pointer (some ⟨b, 0, none⟩), .int .u64 m] w fun e w' => e = .returned (.int .u64 ((Pl.belowN xs m t).1 : Nat)) ∧ SrcT X b A n c xs w' (Pl.belowN xs m t).2 ∧ w.grownBy w' (some b) := by
  have hx := Lib.hid h.2.2.2.2
  have H := Lib.hid h
  clear h
  have tb := pow_test h0 hm
  by_cases hp : Pl.pow2 m = true
  · rw [hp] at tb
    have e1 : Pl.belowN xs m t = (Pl.low (Pl.wd xs t) m, t + 1) := by unfold Pl.belowN; rw [if_pos hp]
    rw [e1]
    have hl := and_dec (Pl.wd_lt hx.out t) h0 hm
    rw [← Pl.low_def] at hl
    have HL := Lib.hid hl
    clear hl e1 hp
    go_enter Try.func19, Try.ntmps19
    go_wp2_with fail
    refine (srcT_next H.out (by omega)).mono ?_
    rintro e w1 ⟨rfl, h1, h2⟩
    have H1 := Lib.hid h1
    have H2 := Lib.hid h2
    clear h1 h2
    go_wp2
    go_ret
    exact ⟨ret_int HL.out, H1.out, H2.out⟩
  · have hp' : Pl.pow2 m = false := by simpa using hp
    rw [hp'] at tb
    have e1 : Pl.belowN xs m t = Pl.draw xs m t := by unfold Pl.belowN; rw [if_neg hp]
    rw [e1]
    clear e1 hp hp'
    have HTH := Lib.hid (thr_eq h0 hm)
    have hmul := fun t W => product_any (Pl.wd xs t) m W (Pl.wd_lt hx.out t) hm
    have HMUL := Lib.hid hmul
    clear hmul
    have hn := H.out.2.2.2.1
    have hxl : xs.length = n := H.out.2.1.1
    have HXL := Lib.hid hxl
    clear hxl
    go_enter Try.func19, Try.ntmps19
    go_wp2_with fail
    go_loopg [5] (xs.length - t) (fun k _ wr => ∃ i : Nat, t ≤ i ∧ (i ≤ t ∨ i ≤ n) ∧ xs.length - i = k ∧ SrcT X b A n c xs wr i ∧ Pl.draw xs m t = Pl.draw xs m i ∧ w.grownBy wr (some b))
    case atStart => exact ⟨t, Nat.le_refl _, .inl (Nat.le_refl _), rfl, H.out, rfl, grow_refl _ _⟩
    case round =>
      obtain ⟨i, hi1, hi2, hk, hsrc, hdr, hg⟩ := hrel
      have HK := Lib.hid hk
      have HS := Lib.hid hsrc
      have HD := Lib.hid hdr
      have HG := Lib.hid hg
      clear hk hsrc hdr hg
      go_wp2_with fail
      refine (srcT_next HS.out (by omega)).mono ?_
      rintro e w3 ⟨rfl, h1, h2⟩
      have H3 := Lib.hid h1
      have H4 := Lib.hid h2
      clear h1 h2
      go_wp2_with fail
      refine (HMUL.out i _).mono ?_
      rintro e w4 ⟨rfl, hb4⟩
      have H5 := Lib.hid (H3.out.later hb4)
      have H6 := Lib.hid (grow_trans (grow_trans HG.out H4.out) (grow_of_below hb4 _))
      clear hb4
      have hm1 : (m : Int) ≠ 0 := by omega
      have eth := HTH.out
      by_cases hlt : Pl.mulLo (Pl.wd xs i) m < Pl.thr m
      · obtain ⟨q1, q2⟩ := Pl.draw_out h0 hm hlt
        have Q2 := Lib.hid q2
        clear q2
        have tq : decide (Pl.thr m ≤ Pl.mulLo (Pl.wd xs i) m) = false := by simp; omega
        go_wp2_with fail
        go_quiet (fail)
        clear eth
        go_wp2
        go_roundg (xs.length - (i + 1))
        case measure => have := HK.out; omega
        case rel => exact ⟨i + 1, by omega, .inr (by have := HXL.out; omega), rfl, (H5.out.later ((Below.refl _ _).alloc (Nat.le_refl _) _)).later (below_drewN (Below.refl _ _) _), HD.out.trans Q2.out, grow_drewN (grow_alloc H6.out _) _⟩
      · have tq : decide (Pl.thr m ≤ Pl.mulLo (Pl.wd xs i) m) = true := by simp; omega
        have HI := Lib.hid (Pl.draw_in (Nat.not_lt.1 hlt))
        go_wp2_with fail
        go_quiet (fail)
        clear eth
        go_wp2
        go_ret
        rw [HD.out, HI.out]
        exact ⟨rfl, (H5.out.later ((Below.refl _ _).alloc (Nat.le_refl _) _)).later (below_drewN (Below.refl _ _) _), grow_drewN (grow_alloc H6.out _) _⟩
end Go.Proofs.Ytdailbjipfbdfaa
