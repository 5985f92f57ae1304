/- Contracts: impl.Words, spec.Words. -/
import Derived.Test.YtglfeoiakhnkgaaDoorWordC
namespace Go.Proofs.YtglfeoiakhnkgaaDoor
open Go.RowKit
/-- A call has given a slice of the words xs, and nothing that was there has changed. -/
def Giv (w : World) (n : Nat) (xs : List Nat) (e : Ending) (w' : World) : Prop :=
  ∃ A c, e = .returned (.slice A n c) ∧ n ≤ c ∧ Sl w' A n xs ∧ Below w.heap.size w w'
theorem giv_of {w w0 w' : World} {b s n : Nat} {v : Value} (h : DRel w0 b s n v w') (h0 : Below w.heap.size w w0) (hb : w.heap.size ≤ b) : Giv w n (tws s n) (.returned v) w' := by
  obtain ⟨A, c, rfl, hs, hc⟩ := sl_of_own h.1
  exact ⟨A, c, rfl, hc, hs, h0.grown h.2.2.2 h0.size (fun k hk => by injection hk with hk; omega)⟩
set_option maxHeartbeats 400000 in
theorem words_any (hi lo n : Nat) (w : World) (hn : n ≤ 4096) (hl : lo < 18446744073709551616) :
    Calls Tryd.prog 10 #[.int .u64 hi, .int .u64 lo, .int .i64 n] w (Giv w n (tws (Pl.st hi lo) n)) := by
  have hd := drawn_any w.heap.size (Pl.st hi lo) n (w.alloc (.cells #[.int .u64 hi, .int .u64 lo] 51)) hn (by rw [Pl.hiW_st hl, Pl.loW_st hl]; exact Whole.new _ _ _)
  have HD := Lib.hid hd
  clear hd
  go_enter Tryd.func10, Tryd.ntmps10
  go_wp2_with fail
  refine (newpcg_any hi lo _).mono ?_
  rintro e w1 ⟨rfl, rfl⟩
  go_wp2_with fail
  refine HD.out.mono ?_
  rintro e w2 ⟨v, rfl, h⟩
  have H := Lib.hid h
  clear h
  go_wp2
  go_ret
  exact giv_of H.out ((Below.refl _ _).alloc (Nat.le_refl _) _) (Nat.le_refl _)
theorem below3 {w w1 w2 : World} {q : Nat} (h : Below w.heap.size w w1) (k : Below w1.heap.size w1 w2) : Below w.heap.size w (w2.drewN q) := below_drewN (h.trans (k.mono h.size)) q

/-- What a round of spec.Words holds: the words so far, in memory of the call's own; the state in its box. -/
def WRel (w : World) (s k : Nat) (v : Value) (wr : World) : Prop :=
  wr.ownsRow (w.heap.size + 1) 22 1 v k (vals (tws s k)) ∧
  Whole wr w.heap.size 28 #[.int .u64 (Pl.hiW (Pl.steps k s) : Nat), .int .u64 (Pl.loW (Pl.steps k s) : Nat)] ∧ w.heap.size + 1 ≤ wr.heap.size ∧ Below w.heap.size w wr
theorem own_below {w w' : World} {base : Nat} {e : TypeId} {sz n : Nat} {v : Value} {xs : List Value} (h : w.ownsRow base e sz v n xs) (hb : Below w.heap.size w w') : w'.ownsRow base e sz v n xs :=
  h.kept (grow_of_below hb none) (by cases hv : v.ownBlock <;> simp)
theorem own_put {w : World} {base : Nat} {e : TypeId} {sz n : Nat} {v : Value} {xs : List Value} (h : w.ownsRow base e sz v n xs) {a : Addr} (ha : a.block < base) (u : Value) : (w.setCell a u).ownsRow base e sz v n xs :=
  ownsRow_setCell_below h ha u
theorem wrel_mid {w wr w1 : World} {s k : Nat} {v : Value} (h : WRel w s k v wr) (hb : Below wr.heap.size wr w1) :
    ((w1.setCell ⟨w.heap.size, 0, none⟩ (.int .u64 (Pl.hiW (Pl.step (Pl.steps k s)) : Nat))).setCell ⟨w.heap.size, 1, none⟩ (.int .u64 (Pl.loW (Pl.step (Pl.steps k s)) : Nat))).ownsRow (w.heap.size + 1) 22 1 v k (vals (tws s k)) ∧
    Whole ((w1.setCell ⟨w.heap.size, 0, none⟩ (.int .u64 (Pl.hiW (Pl.step (Pl.steps k s)) : Nat))).setCell ⟨w.heap.size, 1, none⟩ (.int .u64 (Pl.loW (Pl.step (Pl.steps k s)) : Nat))) w.heap.size 28 #[.int .u64 (Pl.hiW (Pl.steps (k + 1) s) : Nat), .int .u64 (Pl.loW (Pl.steps (k + 1) s) : Nat)] ∧
    Below w.heap.size w ((w1.setCell ⟨w.heap.size, 0, none⟩ (.int .u64 (Pl.hiW (Pl.step (Pl.steps k s)) : Nat))).setCell ⟨w.heap.size, 1, none⟩ (.int .u64 (Pl.loW (Pl.step (Pl.steps k s)) : Nat))) ∧ w.heap.size + 1 ≤ w1.heap.size := by
  obtain ⟨h1, h2, h3, h4⟩ := h
  refine ⟨own_put (own_put (own_below h1 hb) (by simp) _) (by simp) _, ?_, ((h4.trans (hb.mono h4.size)).setCell (by simp) _).setCell (by simp) _, Nat.le_trans h3 hb.size⟩
  rw [Pl.steps_succ]
  exact ((h2.below hb h2.lt).put 0 _).put 1 _
theorem wrel_next {w W w1 w2 : World} {s k : Nat} {v v' : Value} {o : Obj}
    (h1 : W.ownsRow (w.heap.size + 1) 22 1 v k (vals (tws s k)))
    (h2 : Whole W w.heap.size 28 #[.int .u64 (Pl.hiW (Pl.steps (k + 1) s) : Nat), .int .u64 (Pl.loW (Pl.steps (k + 1) s) : Nat)])
    (h3 : Below w.heap.size w W) (h4 : w.heap.size + 1 ≤ W.heap.size) (hb : Below W.heap.size W w1)
    (hown : w2.ownsRow (w.heap.size + 1) 22 1 v' (k + 1) (vals (tws s k) ++ [.int .u64 (tw (Pl.steps (k + 1) s) : Nat)])) (hg2 : (w1.alloc o).grownBy w2 v.ownBlock) : WRel w s (k + 1) v' w2 := by
  have hlt : ∀ g, v.ownBlock = some g → w.heap.size + 1 ≤ g := fun g hg => (h1.lt g hg).1
  have hz : w.heap.size + 1 ≤ (w1.alloc o).heap.size := by have := hb.size; simp; omega
  refine ⟨?_, ?_, Nat.le_trans hz hg2.size, ?_⟩
  · rw [tws_succ, vals_snoc]
    exact hown
  · refine ((h2.below hb h2.lt).alloc o).grown hg2 fun e => ?_
    have := hlt _ e.symm
    omega
  · have h5 : Below w.heap.size w w1 := h3.trans (hb.mono h3.size)
    exact (h5.alloc h5.size o).grown hg2 (by omega) (fun g hg => by have := hlt g hg; omega)
set_option maxHeartbeats 1000000 in
theorem specwords_any (s n : Nat) (w : World) (hn : n ≤ 4096) :
    Calls Tryd.prog 8 #[stV s, .int .i64 n] w (Giv w n (tws s n)) := by
  obtain ⟨i0, hi0, hz0, hz1, hz2⟩ := info_parts info_u64
  go_enter Tryd.func8, Tryd.ntmps8
  go_wp2_with fail
  go_loopw [5, 8] (fun v i wr => ∃ k : Nat, k ≤ n ∧ i = .int .i64 k ∧ WRel w s k v wr) (fun _ i _ => n - (intOf i).toNat)
  case atStart =>
    refine ⟨0, by omega, rfl, ?_⟩
    have h := World.ownsRow_lit (base := w.heap.size + 1) (e := 22) (size := 1) (w.alloc (.cells #[.int .u64 (Pl.hiW s : Nat), .int .u64 (Pl.loW s : Nat)] 28)) #[] 0 (by simp) (by unfold maxLen; omega) (by simp)
    refine ⟨?_, ?_, by simp, ((Below.refl _ _).alloc (Nat.le_refl _) _).alloc (by simp) _⟩
    · rw [tws_zero]
      simpa [vals] using h
    · rw [Pl.steps_zero]
      exact (Whole.new _ _ _).alloc _
  case round =>
    obtain ⟨k, hk, rfl, hr⟩ := hrel
    have HR := Lib.hid hr
    have c0 := hr.2.1.cell 0
    have c1 := hr.2.1.cell 1
    have f0 := hr.2.1.free 0
    have f1 := hr.2.1.free 1
    simp at c0 c1
    clear hr
    by_cases hlt : k < n
    · go_wp2_with fail
      refine (step_any (Pl.steps k s) _).mono ?_
      rintro e w1 ⟨rfl, hb1⟩
      have d0 := cell_later hb1 c0
      have d1 := cell_later hb1 c1
      have g0 := free_later hb1 c0 f0
      have g1 := free_later hb1 c1 f1
      obtain ⟨m1, m2, m3, m4⟩ := wrel_mid HR.out hb1
      have M1 := Lib.hid m1
      have M2 := Lib.hid m2
      have M3 := Lib.hid m3
      have M4 := Lib.hid m4
      clear m1 m2 m3 m4 hb1 c0 c1 f0 f1
      go_wp2_with fail
      obtain ⟨W, hW⟩ : ∃ W, W = (w1.setCell ⟨w.heap.size, 0, none⟩ (.int .u64 (Pl.hiW (Pl.step (Pl.steps k s)) : Nat))).setCell ⟨w.heap.size, 1, none⟩ (.int .u64 (Pl.loW (Pl.step (Pl.steps k s)) : Nat)) := ⟨_, rfl⟩
      have M5 := Lib.hid (show w.heap.size + 1 ≤ W.heap.size by rw [hW]; simpa using M4.out)
      rw [← hW] at M1 M2 M3 ⊢
      clear hW M4 d0 d1 g0 g1
      refine (told_any (Pl.step (Pl.steps k s)) W).mono ?_
      rintro e w2 ⟨rfl, hb2⟩
      have hown := own_below M1.out hb2
      have HB := Lib.hid hb2
      clear hb2
      go_wp2_with (at_builtin; refine wpList_append_own _ rfl _ _ 24 rfl (w.heap.size + 1) 22 i0 (.int .u64 0) 1 8 Tryd.underlying24 hi0 hz0 hz1 hz2 rfl (by decide) _ _ _ rfl (hown.alloc _) ⟨w2.heap.size, 0, none⟩ 1 1 [.int .u64 (tw (Pl.step (Pl.steps k s)) : Nat)] rfl rfl ?c1 ?c2 ?c3 ?c4 ?c5 ?_)
      case c1 => exact cell_one_new _ _ _
      case c2 => intro u hu; simp at hu; subst hu; rfl
      case c3 => unfold maxLen; omega
      case c4 => omega
      case c5 => have h1 := M5.out; have h2 := HB.out.size; simp; omega
      intro v' w3 hown' hgrow _
      rw [← Pl.steps_succ] at hown'
      have HO := Lib.hid (wrel_next M1.out M2.out M3.out M5.out HB.out hown' hgrow)
      clear hown hown' hgrow
      go_wp2
      go_roundw
      case rel => exact ⟨k + 1, by omega, by go_num, HO.out⟩
      case measure => simp [intOf]; omega
    · obtain rfl : k = n := by omega
      go_wp2
      go_ret
      obtain ⟨A, c, e, hs, hc⟩ := sl_of_own HR.out.1
      exact ⟨A, c, by rw [← e]; rfl, hc, hs, HR.out.2.2.2⟩
end Go.Proofs.YtglfeoiakhnkgaaDoor
