/- Contract of the reference's Jump: so many steps at once, by squares. -/
import Derived.Test.YtglfeoiakhnkgaaSpecB
import Derived.Test.YtglfeoiakhnkgaaPlainJ
import Derived.Deep.DeepCutAuto
namespace Go.Proofs.Ytglfeoiakhnkgaa
open Go.RowKit

/-- A state in a block. -/
def StAt (w : World) (g s : Nat) : Prop := Whole w g 27 #[.int .u64 (Pl.hiW s : Nat), .int .u64 (Pl.loW s : Nat)]

/-- What Jump holds in memory: the state, the result's cell, the map's factor and what it adds. -/
def JMem (w : World) (n5 s a b : Nat) (wr : World) : Prop :=
  StAt wr w.heap.size s ∧ Whole wr (w.heap.size + 1) 27 #[.int .u64 0, .int .u64 0] ∧ StAt wr n5 a ∧ StAt wr (n5 + 1) b ∧ w.heap.size + 2 ≤ n5 ∧ Below w.heap.size w wr

theorem JMem.later {w wr W : World} {n5 s a b : Nat} (h : JMem w n5 s a b wr) (hb : Below wr.heap.size wr W) : JMem w n5 s a b W :=
  ⟨h.1.below hb h.1.lt, h.2.1.below hb h.2.1.lt, h.2.2.1.below hb h.2.2.1.lt, h.2.2.2.1.below hb h.2.2.2.1.lt, h.2.2.2.2.1, h.2.2.2.2.2.trans (hb.mono h.2.2.2.2.2.size)⟩
theorem StAt.put {w : World} {g s : Nat} (h : StAt w g s) (s' : Nat) : StAt ((w.setCell ⟨g, 0, none⟩ (.int .u64 (Pl.hiW s' : Nat))).setCell ⟨g, 1, none⟩ (.int .u64 (Pl.loW s' : Nat))) g s' := (Whole.put h 0 _).put 1 _
theorem StAt.far {w : World} {g s : Nat} (h : StAt w g s) {g' : Nat} (hg : g ≠ g') (u v : Value) : StAt ((w.setCell ⟨g', 0, none⟩ u).setCell ⟨g', 1, none⟩ v) g s := (Whole.far h hg _).far hg _
theorem JMem.putS {w W : World} {n5 s a b : Nat} (h : JMem w n5 s a b W) (s' : Nat) : JMem w n5 s' a b ((W.setCell ⟨w.heap.size, 0, none⟩ (.int .u64 (Pl.hiW s' : Nat))).setCell ⟨w.heap.size, 1, none⟩ (.int .u64 (Pl.loW s' : Nat))) := by
  obtain ⟨h0, h1, h2, h3, h4, h5⟩ := h
  exact ⟨h0.put s', (Whole.far h1 (by show w.heap.size + 1 ≠ w.heap.size; omega) _).far (by show w.heap.size + 1 ≠ w.heap.size; omega) _, h2.far (by omega) _ _, h3.far (by omega) _ _, h4, (h5.setCell (Nat.le_refl _) _).setCell (Nat.le_refl _) _⟩
theorem JMem.putA {w W : World} {n5 s a b : Nat} (h : JMem w n5 s a b W) (a' : Nat) : JMem w n5 s a' b ((W.setCell ⟨n5, 0, none⟩ (.int .u64 (Pl.hiW a' : Nat))).setCell ⟨n5, 1, none⟩ (.int .u64 (Pl.loW a' : Nat))) := by
  obtain ⟨h0, h1, h2, h3, h4, h5⟩ := h
  exact ⟨h0.far (by omega) _ _, (Whole.far h1 (by show w.heap.size + 1 ≠ n5; omega) _).far (by show w.heap.size + 1 ≠ n5; omega) _, h2.put a', h3.far (by omega) _ _, h4, (h5.setCell (by show w.heap.size ≤ n5; omega) _).setCell (by show w.heap.size ≤ n5; omega) _⟩
theorem JMem.putB {w W : World} {n5 s a b : Nat} (h : JMem w n5 s a b W) (b' : Nat) : JMem w n5 s a b' ((W.setCell ⟨n5 + 1, 0, none⟩ (.int .u64 (Pl.hiW b' : Nat))).setCell ⟨n5 + 1, 1, none⟩ (.int .u64 (Pl.loW b' : Nat))) := by
  obtain ⟨h0, h1, h2, h3, h4, h5⟩ := h
  exact ⟨h0.far (by omega) _ _, (Whole.far h1 (by show w.heap.size + 1 ≠ n5 + 1; omega) _).far (by show w.heap.size + 1 ≠ n5 + 1; omega) _, h2.far (by omega) _ _, h3.put b', h4, (h5.setCell (by show w.heap.size ≤ n5 + 1; omega) _).setCell (by show w.heap.size ≤ n5 + 1; omega) _⟩

/-- How far a round is: the map that is held makes 2^j steps, and what is left of n makes up the rest. -/
def JRel (w : World) (n5 s0 n : Nat) (m : Nat) (wr : World) : Prop :=
  ∃ s a b j : Nat, JMem w n5 s a b wr ∧ (∀ x, Pl.add (Pl.mul x a) b = Pl.steps (2 ^ j) x) ∧ Pl.steps (m * 2 ^ j) s = Pl.steps n s0 ∧ s < 340282366920938463463374607431768211456 ∧ a < 340282366920938463463374607431768211456 ∧ b < 340282366920938463463374607431768211456

theorem jmem_start {w w1 w2 : World} {s : Nat} (hb : Below ((w.alloc (.cells #[.int .u64 (Pl.hiW s : Nat), .int .u64 (Pl.loW s : Nat)] 27)).alloc (.cells #[.int .u64 0, .int .u64 0] 27)).heap.size ((w.alloc (.cells #[.int .u64 (Pl.hiW s : Nat), .int .u64 (Pl.loW s : Nat)] 27)).alloc (.cells #[.int .u64 0, .int .u64 0] 27)) w1)
    (hb2 : Below w1.heap.size w1 w2) :
    JMem w w2.heap.size s Pl.F Pl.A ((w2.alloc (.cells #[.int .u64 (Pl.hiW Pl.F : Nat), .int .u64 (Pl.loW Pl.F : Nat)] 27)).alloc (.cells #[.int .u64 (Pl.hiW Pl.A : Nat), .int .u64 (Pl.loW Pl.A : Nat)] 27)) := by
  have hz : w.heap.size + 2 ≤ w1.heap.size := by have := hb.size; simp at this; omega
  have hz2 := hb2.size
  have h0 : StAt w1 w.heap.size s := ((Whole.new w _ _).alloc _).below hb (by simp; omega)
  have h1 : Whole w1 (w.heap.size + 1) 27 #[.int .u64 0, .int .u64 0] := by
    have h := (Whole.new (w.alloc (.cells #[.int .u64 (Pl.hiW s : Nat), .int .u64 (Pl.loW s : Nat)] 27)) 27 #[.int .u64 0, .int .u64 0]).below hb (by simp)
    simpa using h
  have h3 : Below w.heap.size w w1 := (((Below.refl _ _).alloc (Nat.le_refl _) _).alloc (by simp) _).trans (hb.mono (by simp; omega))
  have h4 : Below w.heap.size w w2 := h3.trans (hb2.mono h3.size)
  refine ⟨((Whole.below h0 hb2 (Whole.lt h0)).alloc _).alloc _, ((h1.below hb2 h1.lt).alloc _).alloc _, (Whole.new w2 _ _).alloc _, ?_, by omega, (h4.alloc (by omega) _).alloc (by simp; omega) _⟩
  have h := Whole.new (w2.alloc (.cells #[.int .u64 (Pl.hiW Pl.F : Nat), .int .u64 (Pl.loW Pl.F : Nat)] 27)) 27 #[.int .u64 (Pl.hiW Pl.A : Nat), .int .u64 (Pl.loW Pl.A : Nat)]
  unfold StAt
  simpa using h

theorem odd_test {m : Nat} (hm : m < 18446744073709551616) (h : m % 2 = 1) : (bits .and .u64 (m : Int) 1 == 1) = true := by
  rw [and_one_u64 _ (by omega) (by omega)]; simp; omega
theorem even_test {m : Nat} (hm : m < 18446744073709551616) (h : m % 2 = 0) : (bits .and .u64 (m : Int) 1 == 1) = false := by
  rw [and_one_u64 _ (by omega) (by omega)]; simp; omega

/-- The rounds' cells. -/
theorem StAt.cells {w : World} {g s : Nat} (h : StAt w g s) : w.cell? ⟨g, 0, none⟩ = some (.int .u64 (Pl.hiW s : Nat)) ∧ w.cell? ⟨g, 1, none⟩ = some (.int .u64 (Pl.loW s : Nat)) ∧ w.frozen? ⟨g, 0, none⟩ = false ∧ w.frozen? ⟨g, 1, none⟩ = false := by
  have h0 := Whole.cell h 0
  have h1 := Whole.cell h 1
  simp at h0 h1
  exact ⟨h0, h1, Whole.free h 0, Whole.free h 1⟩

theorem keepAB {W1 W2 : World} {p q r t : Value} {g : Nat} (hb : Below W1.heap.size W1 W2)
    (h : W1.cell? ⟨g, 0, none⟩ = some p ∧ W1.cell? ⟨g, 1, none⟩ = some q ∧ W1.cell? ⟨g + 1, 0, none⟩ = some r ∧ W1.cell? ⟨g + 1, 1, none⟩ = some t) :
    W2.cell? ⟨g, 0, none⟩ = some p ∧ W2.cell? ⟨g, 1, none⟩ = some q ∧ W2.cell? ⟨g + 1, 0, none⟩ = some r ∧ W2.cell? ⟨g + 1, 1, none⟩ = some t :=
  ⟨cell_later hb h.1, cell_later hb h.2.1, cell_later hb h.2.2.1, cell_later hb h.2.2.2⟩
theorem keepAB_put {W : World} {p q r t u v : Value} {g d : Nat} (h : W.cell? ⟨g, 0, none⟩ = some p ∧ W.cell? ⟨g, 1, none⟩ = some q ∧ W.cell? ⟨g + 1, 0, none⟩ = some r ∧ W.cell? ⟨g + 1, 1, none⟩ = some t) (h1 : g ≠ d) (h2 : g + 1 ≠ d) :
    ((W.setCell ⟨d, 0, none⟩ u).setCell ⟨d, 1, none⟩ v).cell? ⟨g, 0, none⟩ = some p ∧ ((W.setCell ⟨d, 0, none⟩ u).setCell ⟨d, 1, none⟩ v).cell? ⟨g, 1, none⟩ = some q ∧
    ((W.setCell ⟨d, 0, none⟩ u).setCell ⟨d, 1, none⟩ v).cell? ⟨g + 1, 0, none⟩ = some r ∧ ((W.setCell ⟨d, 0, none⟩ u).setCell ⟨d, 1, none⟩ v).cell? ⟨g + 1, 1, none⟩ = some t := by
  have k1 := held2_put (u := u) (v := v) ⟨h.1, h.2.1⟩ h1
  have k2 := held2_put (u := u) (v := v) h.2.2 h2
  exact ⟨k1.1, k1.2, k2.1, k2.2⟩

set_option maxHeartbeats 4000000 in
theorem jump_any (s n : Nat) (w : World) (hs : s < 340282366920938463463374607431768211456) (hn : n < 18446744073709551616) :
    Calls Try.prog 21 #[stV s, .int .u64 n] w fun e w' => e = .returned (stV (Pl.steps n s)) ∧ Below w.heap.size w w' := by
  go_enter Try.func21, Try.ntmps21
  go_wp2_with fail
  refine (factor_any _).mono ?_
  rintro e w1 ⟨rfl, hb1⟩
  have HB := Lib.hid hb1
  clear hb1
  go_wp2_with fail
  refine (added_any _).mono ?_
  rintro e w2 ⟨rfl, hb2⟩
  have HB2 := Lib.hid hb2
  clear hb2
  go_wp2_with fail
  go_loopw [1] (fun i wr => ∃ m : Nat, m < 18446744073709551616 ∧ i = .int .u64 m ∧ JRel w w2.heap.size s n m wr) (fun i _ => (intOf i).toNat)
  case atStart => exact ⟨n, hn, rfl, s, Pl.F, Pl.A, 0, jmem_start HB.out HB2.out, Pl.jump_one, by rw [Nat.pow_zero, Nat.mul_one], hs, Pl.F_lt, Pl.A_lt⟩
  case round =>
    obtain ⟨m, hm, rfl, s', a, b, j, hmem, hmap, hst, hs', ha, hb⟩ := hrel
    have HM := Lib.hid hmem
    have HP := Lib.hid hmap
    have HS := Lib.hid hst
    clear hmem hmap hst HB HB2
    obtain ⟨n5, hn5⟩ : ∃ n5, n5 = w2.heap.size := ⟨_, rfl⟩
    rw [← hn5] at HM ⊢
    clear hn5
    have hns : w.heap.size + 2 ≤ n5 := HM.out.2.2.2.2.1
    by_cases hm0 : m = 0
    · subst hm0
      obtain ⟨c0, c1, _, _⟩ := HM.out.1.cells
      have r0 := HM.out.2.1.cell 0
      have r1 := HM.out.2.1.cell 1
      have g0 := HM.out.2.1.free 0
      have g1 := HM.out.2.1.free 1
      simp at r0 r1
      have HE := Lib.hid (HS.out)
      rw [Nat.zero_mul, Pl.steps_zero] at HE
      go_wp2
      refine bodyPost_ret (v := stV s') (by simp [results, Try.results21, go_sem, r0, r1]) rfl ?_
      refine ⟨by rw [← HE.out], (HM.out.2.2.2.2.2.setCell (by simp) _).setCell (by simp) _⟩
    · have hpos : (0 : Int) < (m : Int) := by omega
      go_upto_if 15 with (fail)
      go_cut [] (fun wx => ∃ sC : Nat, JMem w n5 sC a b wx ∧ Pl.steps (m / 2 * 2 ^ (j + 1)) sC = Pl.steps n s ∧ sC < 340282366920938463463374607431768211456)
      case first =>
        by_cases hodd : m % 2 = 1
        · have tb := odd_test hm hodd
          obtain ⟨c0, c1, f0, f1⟩ := HM.out.1.cells
          obtain ⟨a0, a1, _, _⟩ := HM.out.2.2.1.cells
          obtain ⟨b0, b1, _, _⟩ := HM.out.2.2.2.1.cells
          have hml := Pl.mul_lt s' a
          go_wp2_with fail
          go_region_with (first
              | (go_at_call 19; refine (times_s s' a _).mono ?_; rintro e w3 ⟨rfl, hb3⟩
                 have k0 := cell_later (w := wr.drew) hb3 b0
                 have k1 := cell_later (w := wr.drew) hb3 b1)
              | (go_at_call 18; refine (plus_s (Pl.mul s' a) b _ hml hb).mono ?_; rintro e w4 ⟨rfl, hb4⟩
                 have hbb : Below wr.heap.size wr.drew w4 := hb3.trans (hb4.mono hb3.size)
                 have k2 := cell_later (w := wr.drew) hbb c0
                 have k3 := cell_later (w := wr.drew) hbb c1
                 have l2 := free_later (w := wr.drew) hbb c0 f0
                 have l3 := free_later (w := wr.drew) hbb c1 f1))
          all_goals
            have HJ := Lib.hid ((HM.out.later ((Below.refl _ wr).drew.trans hbb)).putS (Pl.add (Pl.mul s' a) b))
            clear hbb hb3 hb4
            go_wp2_with fail
            go_meet
            exact ⟨_, HJ.out, by rw [HP.out, Pl.jump_odd m j s' hodd]; exact HS.out, Pl.add_lt _ _⟩
        · have tb := even_test hm (show m % 2 = 0 by omega)
          go_wp2_with fail
          go_meet
          exact ⟨s', HM.out, by rw [Pl.jump_even m j s' (by omega)]; exact HS.out, hs'⟩
      case rest =>
        obtain ⟨sC, hM, hS, hC⟩ := hcut
        have HM2 := Lib.hid hM
        have HS2 := Lib.hid hS
        clear hM hS HM HS
        go_upto_region 6 with (fail)
        go_cut [] (fun wx => JMem w n5 sC a (Pl.add (Pl.mul a b) b) wx)
        case first =>
          obtain ⟨a0, a1, _, _⟩ := HM2.out.2.2.1.cells
          obtain ⟨b0, b1, f0, f1⟩ := HM2.out.2.2.2.1.cells
          have hml := Pl.mul_lt a b
          go_region_with (first
              | (go_at_call 19; refine (times_s a b _).mono ?_; rintro e w3 ⟨rfl, hb3⟩
                 have k0 := cell_later (w := wc.drew) hb3 b0
                 have k1 := cell_later (w := wc.drew) hb3 b1)
              | (go_at_call 18; refine (plus_s (Pl.mul a b) b _ hml hb).mono ?_; rintro e w4 ⟨rfl, hb4⟩
                 have hbb : Below wc.heap.size wc.drew w4 := hb3.trans (hb4.mono hb3.size)
                 have k2 := cell_later (w := wc.drew) hbb b0
                 have k3 := cell_later (w := wc.drew) hbb b1
                 have l2 := free_later (w := wc.drew) hbb b0 f0
                 have l3 := free_later (w := wc.drew) hbb b1 f1))
          all_goals
            have HJ := Lib.hid ((HM2.out.later ((Below.refl _ wc).drew.trans hbb)).putB (Pl.add (Pl.mul a b) b))
            clear hbb hb3 hb4
            go_wp2_with fail
            go_meet
            exact HJ.out
        case rest =>
          have HM3 := Lib.hid hcut
          clear hcut
          obtain ⟨a0, a1, f0, f1⟩ := HM3.out.2.2.1.cells
          go_wp2_with fail
          refine (times_s a a _).mono ?_
          rintro e w3 ⟨rfl, hb3⟩
          have HJ := Lib.hid (HM3.out.later hb3)
          have k0 := cell_later hb3 a0
          have k1 := cell_later hb3 a1
          have l0 := free_later hb3 a0 f0
          have l1 := free_later hb3 a1 f1
          clear hb3 a0 a1 f0 f1
          go_wp2
          go_roundw
          case rel => exact ⟨m / 2, by omega, by go_num, sC, Pl.mul a a, Pl.add (Pl.mul a b) b, j + 1, HJ.out.putA _, Pl.jump_sq a b j HP.out, HS2.out, hC, Pl.mul_lt _ _, Pl.add_lt _ _⟩
          case measure => simp [intOf]; omega
end Go.Proofs.Ytglfeoiakhnkgaa
