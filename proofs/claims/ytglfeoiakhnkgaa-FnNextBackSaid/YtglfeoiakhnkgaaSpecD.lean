/- Contract of the reference's Before: the inverse of a step; the law FnNextBack as a walk. -/
import Derived.Test.YtglfeoiakhnkgaaSpecC
import Derived.Deep.RegionWith
namespace Go.Proofs.Ytglfeoiakhnkgaa
open Go.RowKit

/-- What a round of Before holds in memory: the argument's box, the result's cell, the factor, the inverse so far. -/
def BRel (w : World) (s n3 v : Nat) (wr : World) : Prop :=
  Whole wr w.heap.size 27 #[.int .u64 (Pl.hiW s : Nat), .int .u64 (Pl.loW s : Nat)] ∧
  Whole wr (w.heap.size + 1) 27 #[.int .u64 0, .int .u64 0] ∧
  Whole wr n3 27 #[.int .u64 (Pl.hiW Pl.F : Nat), .int .u64 (Pl.loW Pl.F : Nat)] ∧
  Whole wr (n3 + 1) 27 #[.int .u64 (Pl.hiW v : Nat), .int .u64 (Pl.loW v : Nat)] ∧
  w.heap.size + 2 ≤ n3 ∧ Below w.heap.size w wr

theorem brel_start {w w1 : World} {s : Nat} (hb : Below ((w.alloc (.cells #[.int .u64 (Pl.hiW s : Nat), .int .u64 (Pl.loW s : Nat)] 27)).alloc (.cells #[.int .u64 0, .int .u64 0] 27)).heap.size ((w.alloc (.cells #[.int .u64 (Pl.hiW s : Nat), .int .u64 (Pl.loW s : Nat)] 27)).alloc (.cells #[.int .u64 0, .int .u64 0] 27)) w1) :
    BRel w s w1.heap.size (Pl.nb 0) ((w1.alloc (.cells #[.int .u64 (Pl.hiW Pl.F : Nat), .int .u64 (Pl.loW Pl.F : Nat)] 27)).alloc (.cells #[.int .u64 0, .int .u64 1] 27)) := by
  have hz : w.heap.size + 2 ≤ w1.heap.size := by have := hb.size; simp at this; omega
  have h0 : Whole w1 w.heap.size 27 #[.int .u64 (Pl.hiW s : Nat), .int .u64 (Pl.loW s : Nat)] := ((Whole.new w _ _).alloc _).below hb (by simp; omega)
  have h1 : Whole w1 (w.heap.size + 1) 27 #[.int .u64 0, .int .u64 0] := by
    have h := (Whole.new (w.alloc (.cells #[.int .u64 (Pl.hiW s : Nat), .int .u64 (Pl.loW s : Nat)] 27)) 27 #[.int .u64 0, .int .u64 0]).below hb (by simp)
    simpa using h
  have h3 : Below w.heap.size w w1 := (((Below.refl _ _).alloc (Nat.le_refl _) _).alloc (by simp) _).trans (hb.mono (by simp; omega))
  refine ⟨(h0.alloc _).alloc _, (h1.alloc _).alloc _, (Whole.new w1 _ _).alloc _, ?_, hz, (h3.alloc (by omega) _).alloc (by simp; omega) _⟩
  rw [Pl.nb_zero, Pl.hiW_one, Pl.loW_one]
  have h := Whole.new (w1.alloc (.cells #[.int .u64 (Pl.hiW Pl.F : Nat), .int .u64 (Pl.loW Pl.F : Nat)] 27)) 27 #[.int .u64 0, .int .u64 1]
  simpa using h

theorem brel_round {w wr W : World} {s n3 v : Nat} (v' : Nat) (h : BRel w s n3 v wr) (hb : Below wr.heap.size wr W) :
    BRel w s n3 v' ((W.setCell ⟨n3 + 1, 0, none⟩ (.int .u64 (Pl.hiW v' : Nat))).setCell ⟨n3 + 1, 1, none⟩ (.int .u64 (Pl.loW v' : Nat))) := by
  obtain ⟨h0, h1, h2, h3, h4, h5⟩ := h
  have e0 : w.heap.size ≠ n3 + 1 := by omega
  have e1 : w.heap.size + 1 ≠ n3 + 1 := by omega
  have e2 : n3 ≠ n3 + 1 := by omega
  have e3 : w.heap.size ≤ n3 + 1 := by omega
  exact ⟨((h0.below hb h0.lt).far e0 _).far e0 _, ((h1.below hb h1.lt).far e1 _).far e1 _, ((h2.below hb h2.lt).far e2 _).far e2 _, ((h3.below hb h3.lt).put 0 _).put 1 _, h4, ((h5.trans (hb.mono h5.size)).setCell e3 _).setCell e3 _⟩

theorem plus_two (t : Nat) (w : World) (ht : t < 340282366920938463463374607431768211456) :
    Calls Try.prog 18 #[.agg #[.int .u64 0, .int .u64 2], stV t] w fun e w' => e = .returned (stV (Pl.add 2 t)) ∧ Below w.heap.size w w' := by
  have h := plus_any 0 2 (Pl.hiW t) (Pl.loW t) w (by omega) (by omega) (Pl.hiW_lt ht) (Pl.loW_lt t)
  rw [Pl.st_hl, Pl.st_two] at h
  exact h

/-- The cells that a round loads and stores. -/
theorem held6 {W1 W2 : World} {a b c d : Value} {p q : Nat} (hb : Below W1.heap.size W1 W2)
    (h : W1.cell? ⟨p, 0, none⟩ = some a ∧ W1.cell? ⟨p, 1, none⟩ = some b ∧ W1.cell? ⟨q, 0, none⟩ = some c ∧ W1.cell? ⟨q, 1, none⟩ = some d ∧ W1.frozen? ⟨q, 0, none⟩ = false ∧ W1.frozen? ⟨q, 1, none⟩ = false) :
    W2.cell? ⟨p, 0, none⟩ = some a ∧ W2.cell? ⟨p, 1, none⟩ = some b ∧ W2.cell? ⟨q, 0, none⟩ = some c ∧ W2.cell? ⟨q, 1, none⟩ = some d ∧ W2.frozen? ⟨q, 0, none⟩ = false ∧ W2.frozen? ⟨q, 1, none⟩ = false :=
  ⟨cell_later hb h.1, cell_later hb h.2.1, cell_later hb h.2.2.1, cell_later hb h.2.2.2.1, free_later hb h.2.2.1 h.2.2.2.2.1, free_later hb h.2.2.2.1 h.2.2.2.2.2⟩

theorem held4 {W1 W2 : World} {a b c d : Value} {p q : Nat} (hb : Below W1.heap.size W1 W2)
    (h : W1.cell? ⟨p, 0, none⟩ = some a ∧ W1.cell? ⟨p, 1, none⟩ = some b ∧ W1.cell? ⟨q, 0, none⟩ = some c ∧ W1.cell? ⟨q, 1, none⟩ = some d) :
    W2.cell? ⟨p, 0, none⟩ = some a ∧ W2.cell? ⟨p, 1, none⟩ = some b ∧ W2.cell? ⟨q, 0, none⟩ = some c ∧ W2.cell? ⟨q, 1, none⟩ = some d :=
  ⟨cell_later hb h.1, cell_later hb h.2.1, cell_later hb h.2.2.1, cell_later hb h.2.2.2⟩
theorem held4_put {W : World} {a b c d u v : Value} {p q r : Nat}
    (h : W.cell? ⟨p, 0, none⟩ = some a ∧ W.cell? ⟨p, 1, none⟩ = some b ∧ W.cell? ⟨q, 0, none⟩ = some c ∧ W.cell? ⟨q, 1, none⟩ = some d) (hp : p ≠ r) (hq : q ≠ r) :
    ((W.setCell ⟨r, 0, none⟩ u).setCell ⟨r, 1, none⟩ v).cell? ⟨p, 0, none⟩ = some a ∧ ((W.setCell ⟨r, 0, none⟩ u).setCell ⟨r, 1, none⟩ v).cell? ⟨p, 1, none⟩ = some b ∧
    ((W.setCell ⟨r, 0, none⟩ u).setCell ⟨r, 1, none⟩ v).cell? ⟨q, 0, none⟩ = some c ∧ ((W.setCell ⟨r, 0, none⟩ u).setCell ⟨r, 1, none⟩ v).cell? ⟨q, 1, none⟩ = some d := by
  have h1 := held2_put (u := u) (v := v) ⟨h.1, h.2.1⟩ hp
  have h2 := held2_put (u := u) (v := v) h.2.2 hq
  exact ⟨h1.1, h1.2, h2.1, h2.2⟩

set_option maxHeartbeats 4000000 in
theorem before_any (s : Nat) (w : World) (hs : s < 340282366920938463463374607431768211456) :
    Calls Try.prog 17 #[stV s] w fun e w' => e = .returned (stV (Pl.mul (Pl.add s (Pl.opp Pl.A)) (Pl.nb 7))) ∧ Below w.heap.size w w' := by
  go_enter Try.func17, Try.ntmps17
  go_wp2_with fail
  refine (factor_any _).mono ?_
  rintro e w1 ⟨rfl, hb1⟩
  have HB := Lib.hid hb1
  clear hb1
  go_wp2_with fail
  go_loopw [7] (fun i wr => ∃ k : Nat, k ≤ 7 ∧ i = .int .i64 k ∧ BRel w s w1.heap.size (Pl.nb k) wr) (fun i _ => 7 - (intOf i).toNat)
  case atStart => exact ⟨0, by omega, rfl, brel_start HB.out⟩
  case round =>
    obtain ⟨k, hk, rfl, hr⟩ := hrel
    have HR := Lib.hid hr
    clear hr
    by_cases hlt : k < 7
    · have hm := Pl.mul_lt Pl.F (Pl.nb k)
      have ho := Pl.opp_lt (Pl.mul Pl.F (Pl.nb k))
      have c0 := HR.out.2.2.1.cell 0
      have c1 := HR.out.2.2.1.cell 1
      have c2 := HR.out.2.2.2.1.cell 0
      have c3 := HR.out.2.2.2.1.cell 1
      have f2 := HR.out.2.2.2.1.free 0
      have f3 := HR.out.2.2.2.1.free 1
      simp at c0 c1 c2 c3
      clear HB
      go_wp2_with fail
      go_region_with (first
        | (go_at_call_of 19 (Pl.opp (Pl.mul Pl.F (Pl.nb k))); refine (times_s (Pl.nb k) (Pl.add 2 (Pl.opp (Pl.mul Pl.F (Pl.nb k)))) _).mono ?_; rintro e w5 ⟨rfl, hb5⟩; obtain ⟨_, _, k2, k3, g2, g3⟩ := held6 hb5 hall4)
        | (go_at_call 19; refine (times_s Pl.F (Pl.nb k) _).mono ?_; rintro e w2 ⟨rfl, hb2⟩; have hall2 := held6 (W1 := wr.drew) hb2 ⟨c0, c1, c2, c3, f2, f3⟩; obtain ⟨j0, j1, j2, j3, i2, i3⟩ := id hall2)
        | (go_at_call 32; refine (opposite_any _ _ hm).mono ?_; rintro e w3 ⟨rfl, hb3⟩; have hall3 := held6 hb3 hall2; obtain ⟨m0, m1, m2, m3, n2, n3⟩ := id hall3)
        | (go_at_call 18; refine (plus_two _ _ ho).mono ?_; rintro e w4 ⟨rfl, hb4⟩; have hall4 := held6 hb4 hall3; obtain ⟨p0, p1, p2, p3, q2, q3⟩ := id hall4))
      all_goals
        have hbb : Below wr.heap.size wr w5 := (Below.refl _ wr).drew.trans (hb2.trans ((hb3.mono hb2.size).trans ((hb4.mono (hb2.trans (hb3.mono hb2.size)).size).trans (hb5.mono (hb2.trans ((hb3.mono hb2.size).trans (hb4.mono (hb2.trans (hb3.mono hb2.size)).size))).size))))
        have HBB := Lib.hid hbb
        clear hbb hb2 hb3 hb4 hb5 hall2 hall3 hall4 j0 j1 j2 j3 i2 i3 m0 m1 m2 m3 n2 n3 p0 p1 p2 p3 q2 q3
        go_wp2
        go_roundw
        case rel => exact ⟨k + 1, by omega, by go_num, by rw [Pl.nb_succ]; exact brel_round _ HR.out HBB.out⟩
        case measure => simp [intOf]; omega
    · obtain rfl : k = 7 := by omega
      have hA := Pl.A_lt
      have hoA := Pl.opp_lt Pl.A
      obtain ⟨b0, b1, b2, b3, b4, b5⟩ := HR.out
      have c0 := b0.cell 0
      have c1 := b0.cell 1
      have c2 := b3.cell 0
      have c3 := b3.cell 1
      have r0 := b1.cell 0
      have r1 := b1.cell 1
      have f0 := b1.free 0
      have f1 := b1.free 1
      simp at c0 c1 c2 c3 r0 r1
      have e0 : w.heap.size ≠ w.heap.size + 1 := by omega
      have e3 : w1.heap.size + 1 ≠ w.heap.size + 1 := by omega
      have H5 := Lib.hid b5
      clear HB HR b0 b1 b2 b3 b4 b5
      go_wp2_with fail
      go_region_held3 (fun w' => w'.cell? ⟨w.heap.size, 0, none⟩ = some (.int .u64 (Pl.hiW s : Nat)) ∧ w'.cell? ⟨w.heap.size, 1, none⟩ = some (.int .u64 (Pl.loW s : Nat)) ∧
          w'.cell? ⟨w1.heap.size + 1, 0, none⟩ = some (.int .u64 (Pl.hiW (Pl.nb 7) : Nat)) ∧ w'.cell? ⟨w1.heap.size + 1, 1, none⟩ = some (.int .u64 (Pl.loW (Pl.nb 7) : Nat)))
        (first
          | (exact ⟨c0, c1, c2, c3⟩)
          | (exact held4_put (by assumption) e0 e3)
          | (exact held4 (by assumption) (by assumption)))
        (first
          | (go_at_call 31; refine (added_any _).mono ?_; rintro e w2 ⟨rfl, hb2⟩)
          | (go_at_call 32; refine (opposite_any _ _ hA).mono ?_; rintro e w3 ⟨rfl, hb3⟩)
          | (go_at_call 18; refine (plus_s s (Pl.opp Pl.A) _ hs hoA).mono ?_; rintro e w4 ⟨rfl, hb4⟩)
          | (go_at_call 19; refine (times_s (Pl.add s (Pl.opp Pl.A)) (Pl.nb 7) _).mono ?_; rintro e w5 ⟨rfl, hb5⟩
             have hbb : Below wr.heap.size wr.drew w5 := hb2.trans ((hb3.mono hb2.size).trans ((hb4.mono (hb2.trans (hb3.mono hb2.size)).size).trans (hb5.mono (hb2.trans ((hb3.mono hb2.size).trans (hb4.mono (hb2.trans (hb3.mono hb2.size)).size))).size)))
             have d2 := cell_later (w := wr.drew) hbb r0
             have d3 := cell_later (w := wr.drew) hbb r1
             have g2 := free_later (w := wr.drew) hbb r0 f0
             have g3 := free_later (w := wr.drew) hbb r1 f1))
      have HB : Hid (Below w.heap.size w w5) := H5.out.drew.trans (hbb.mono H5.out.size)
      clear hb2 hb3 hb4 hb5 hbb
      go_wp2
      refine bodyPost_ret (v := stV (Pl.mul (Pl.add s (Pl.opp Pl.A)) (Pl.nb 7))) (by simp [results, Try.results17, go_sem, d2, d3]) rfl ?_
      exact ⟨rfl, (HB.out.setCell (by simp) _).setCell (by simp) _⟩

set_option maxHeartbeats 1000000 in
theorem fnNextBack_true (hi : Nat) (hh : hi < 18446744073709551616) (lo : Nat) (hl : lo < 18446744073709551616) (w : World) :
    Calls Try.prog 5 #[.int .u64 hi, .int .u64 lo] w fun e w' => e = .returned (.bool true) ∧ Below w.heap.size w w' := by
  have hst := fun W => before_any (Pl.step (Pl.st hi lo)) W (Pl.step_lt _)
  rw [Pl.before_step _ (Pl.st_lt hh hl)] at hst
  have e1 : stV (Pl.st hi lo) = .agg #[.int .u64 hi, .int .u64 lo] := by rw [stV, Pl.hiW_st hl, Pl.loW_st hl]
  rw [e1] at hst
  have HST := Lib.hid hst
  clear hst e1
  go_enter Try.func5, Try.ntmps5
  go_wp2_with fail
  refine (implnext_any hi lo _ hl).mono ?_
  rintro e w1 ⟨rfl, hg1⟩
  have HG := Lib.hid hg1
  clear hg1
  go_wp2_with fail
  refine (HST.out _).mono ?_
  rintro e w2 ⟨rfl, hg2⟩
  have HG2 := Lib.hid hg2
  clear hg2
  go_wp2
  go_ret
  exact ⟨rfl, HG.out.trans (HG2.out.mono HG.out.size)⟩
end Go.Proofs.Ytglfeoiakhnkgaa
