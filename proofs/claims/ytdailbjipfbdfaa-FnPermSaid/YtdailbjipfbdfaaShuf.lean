/- Contract of (*Rand).Shuffle over each of the two closures. -/
import Derived.Test.YtdailbjipfbdfaaSwap
namespace Go.Proofs.Ytdailbjipfbdfaa
open Go.RowKit

/-- A list whose places below k are changed, from the last one on, with one that is not behind them; and the words taken till then. -/
noncomputable def shuf (xs : List Nat) : Nat → List Int → Nat → List Int × Nat
  | 0, ys, t => (ys, t)
  | k + 1, ys, t => if k = 0 then (ys, t) else shuf xs k (swp ys k (Pl.belowN xs (k + 1) t).1) (Pl.belowN xs (k + 1) t).2
theorem shuf_small (xs : List Nat) (k : Nat) (ys : List Int) (t : Nat) (h : k ≤ 1) : shuf xs k ys t = (ys, t) := by
  rcases k with _ | _ | k
  · simp only [shuf]
  · simp only [shuf, if_pos]
  · omega
theorem shuf_step (xs : List Nat) (p k : Nat) (ys : List Int) (t : Nat) (h : 1 ≤ p) (hk : k = p + 1) : shuf xs k ys t = shuf xs p (swp ys p (Pl.belowN xs k t).1) (Pl.belowN xs k t).2 := by
  subst hk
  simp only [shuf, if_neg (show ¬ p = 0 by omega)]
theorem shuf_length (xs : List Nat) : ∀ (k : Nat) (ys : List Int) (t : Nat), (shuf xs k ys t).1.length = ys.length := by
  intro k
  induction k with
  | zero => intro ys t; simp only [shuf]
  | succ k ih =>
    intro ys t
    simp only [shuf]
    split
    · rfl
    · rw [ih, swp_length]

theorem Src.other {X : Nat → Prop} {R L G : Nat} {A : Option Addr} {n c t : Nat} {xs : List Nat} {w w' : World} (h : Src X R L A n c xs w t) (hg : w.grownBy w' (some G)) (hX : X G) (hR : R ≠ G) (hL : L ≠ G) : Src X R L A n c xs w' t :=
  ⟨Whole.grown h.1 hg (by intro e; injection e with e; exact hR e), Whole.grown h.2.1 hg (by intro e; injection e with e; exact hL e), h.2.2.1.grown hg hX, h.2.2.2⟩
theorem LstAt.other {w w' : World} {base V G m c L : Nat} {ys : List Int} (h : LstAt w base V G m c ys) (hg : w.grownBy w' (some L)) (hV : V ≠ L) (hG : G ≠ L) : LstAt w' base V G m c ys :=
  ⟨h.1.grown hg (by intro e; injection e with e; exact hV e), h.2.1.kept hg (.inr (by simp [Value.ownBlock]; exact hG)), h.2.2⟩

/-- What a round of Shuffle holds. -/
def ShRel (X : Nat → Prop) (R L : Nat) (A : Option Addr) (n c : Nat) (xs : List Nat) (B base V G m cc : Nat) (w0 : World) (res : List Int × Nat) (k : Nat) (wr : World) : Prop :=
  ∃ ys t, Src X R L A n c xs wr t ∧ LstAt wr base V G m cc ys ∧ Below B w0 wr ∧ shuf xs k ys t = res ∧ t + k * 2147483648 ≤ m * 2147483648

set_option maxHeartbeats 2000000 in
theorem shuffleP_any {X : Nat → Prop} {R L : Nat} {A : Option Addr} {n c : Nat} {xs : List Nat} {B base V G m cc : Nat} {ys : List Int} {w : World} (hm : m ≤ 4096)
    (hsrc : Src X R L A n c xs w 0) (hl : LstAt w base V G m cc ys) (hX : X G) (hRG : R ≠ G) (hLG : L ≠ G) (hVL : V ≠ L) (hBL : B ≤ L) (hBG : B ≤ G) (hBw : B ≤ w.heap.size) :
    Calls Try.prog 28 #[.pointer (some ⟨R, 0, none⟩), .int .i64 m, .func (.func 35) #[] #[.pointer (some ⟨V, 0, none⟩)]] w fun e w' => e = .returned (.tuple #[]) ∧
      Src X R L A n c xs w' (shuf xs m ys 0).2 ∧ LstAt w' base V G m cc (shuf xs m ys 0).1 ∧ Below B w w' := by
  have hx := Lib.hid hsrc.2.2.2.2.2.2
  have hn := hsrc.2.2.2.2.2.1
  have hxl : xs.length ≤ 2147483647 := by rw [hsrc.2.2.1.1]; exact hn
  have HST : Hid (ShRel X R L A n c xs B base V G m cc w (shuf xs m ys 0) m w) := ⟨ys, 0, hsrc, hl, Below.refl _ _, rfl, by omega⟩
  clear hsrc hl
  have t0 : decide ((m : Int) < 0) = false := by simp
  go_enter Try.func28, Try.ntmps28
  go_wp2_with fail
  go_loopw [6] (fun i wr => ∃ (iv : Int) (k : Nat), i = .int .i64 iv ∧ (k : Int) = iv + 1 ∧ k ≤ m ∧ ShRel X R L A n c xs B base V G m cc w (shuf xs m ys 0) k wr) (fun i _ => (intOf i).toNat)
  case atStart => exact ⟨_, m, rfl, by omega, Nat.le_refl _, HST.out⟩
  case round =>
    obtain ⟨iv, k, rfl, hk, hkm, ys1, t, hs, hl, hb, hres, ht⟩ := hrel
    have HS := Lib.hid hs
    have HL := Lib.hid hl
    have HB := Lib.hid hb
    have HRES := Lib.hid hres
    clear hs hl hb hres HST
    by_cases hk2 : 2 ≤ k
    · obtain ⟨p, rfl⟩ : ∃ p : Nat, iv = (p : Int) := ⟨iv.toNat, by omega⟩
      have hv : (p : Int) + 1 = (k : Int) := by omega
      have hp : 0 < p := by omega
      have hkp : k = p + 1 := by omega
      have HKP := Lib.hid hkp
      have hjk := Pl.belowN_lt hx.out (show 0 < k by omega) t
      have htk := (Pl.belowN_taken hx.out (show 0 < k by omega) t).2
      have HU := Lib.hid (uint64n_any k (by omega) (by omega) HS.out (by omega))
      have hpm : p < m := by omega
      have hjm : (Pl.belowN xs k t).1 < m := by omega
      clear hk hkp
      go_wp2_with fail
      refine HU.out.mono ?_
      rintro e w1 ⟨rfl, h1, h2⟩
      have hl1 := HL.out.other h2 hVL (Ne.symm hLG)
      have HL1 := Lib.hid hl1
      have H1 := Lib.hid h1
      have H2 := Lib.hid h2
      clear h1 h2 hl1
      go_wp2_with fail
      refine (swapP_any HL1.out p (Pl.belowN xs k t).1 hpm hjm).mono ?_
      rintro e w2 ⟨rfl, h3, h4⟩
      have HR : Hid (ShRel X R L A n c xs B base V G m cc w (shuf xs m ys 0) p w2) :=
        ⟨_, _, H1.out.other h4 hX hRG hLG, h3, (HB.out.grown H2.out (Nat.le_trans hBw HB.out.size) (fun g hg => by injection hg with hg; omega)).grown h4 (Nat.le_trans hBw (Nat.le_trans HB.out.size H2.out.size)) (fun g hg => by injection hg with hg; omega),
          by rw [← HRES.out]; exact (shuf_step xs p k ys1 t (by omega) HKP.out).symm, by omega⟩
      clear h3 h4 hv
      go_wp2
      go_roundw
      case rel => exact ⟨_, p, rfl, by omega, by omega, HR.out⟩
      case measure => simp [intOf]; omega
    · have hi : ¬ (0 : Int) < iv := by omega
      have hsm := shuf_small xs k ys1 t (by omega)
      have HE := Lib.hid (hsm.symm.trans HRES.out)
      clear hsm
      go_wp2
      go_end0
      rw [← HE.out]
      exact ⟨rfl, HS.out, HL.out, HB.out⟩

set_option maxHeartbeats 2000000 in
theorem shuffleS_any {X : Nat → Prop} {R L : Nat} {A : Option Addr} {n c : Nat} {xs : List Nat} {B base V G m cc : Nat} {ys : List Int} {w : World} (hm : m ≤ 4096)
    (hsrc : Src X R L A n c xs w 0) (hl : LstAt w base V G m cc ys) (hX : X G) (hRG : R ≠ G) (hLG : L ≠ G) (hVL : V ≠ L) (hBL : B ≤ L) (hBG : B ≤ G) (hBw : B ≤ w.heap.size) :
    Calls Try.prog 28 #[.pointer (some ⟨R, 0, none⟩), .int .i64 m, .func (.func 29) #[] #[.pointer (some ⟨V, 0, none⟩)]] w fun e w' => e = .returned (.tuple #[]) ∧
      Src X R L A n c xs w' (shuf xs m ys 0).2 ∧ LstAt w' base V G m cc (shuf xs m ys 0).1 ∧ Below B w w' := by
  have hx := Lib.hid hsrc.2.2.2.2.2.2
  have hn := hsrc.2.2.2.2.2.1
  have hxl : xs.length ≤ 2147483647 := by rw [hsrc.2.2.1.1]; exact hn
  have HST : Hid (ShRel X R L A n c xs B base V G m cc w (shuf xs m ys 0) m w) := ⟨ys, 0, hsrc, hl, Below.refl _ _, rfl, by omega⟩
  clear hsrc hl
  have t0 : decide ((m : Int) < 0) = false := by simp
  go_enter Try.func28, Try.ntmps28
  go_wp2_with fail
  go_loopw [6] (fun i wr => ∃ (iv : Int) (k : Nat), i = .int .i64 iv ∧ (k : Int) = iv + 1 ∧ k ≤ m ∧ ShRel X R L A n c xs B base V G m cc w (shuf xs m ys 0) k wr) (fun i _ => (intOf i).toNat)
  case atStart => exact ⟨_, m, rfl, by omega, Nat.le_refl _, HST.out⟩
  case round =>
    obtain ⟨iv, k, rfl, hk, hkm, ys1, t, hs, hl, hb, hres, ht⟩ := hrel
    have HS := Lib.hid hs
    have HL := Lib.hid hl
    have HB := Lib.hid hb
    have HRES := Lib.hid hres
    clear hs hl hb hres HST
    by_cases hk2 : 2 ≤ k
    · obtain ⟨p, rfl⟩ : ∃ p : Nat, iv = (p : Int) := ⟨iv.toNat, by omega⟩
      have hv : (p : Int) + 1 = (k : Int) := by omega
      have hp : 0 < p := by omega
      have hkp : k = p + 1 := by omega
      have HKP := Lib.hid hkp
      have hjk := Pl.belowN_lt hx.out (show 0 < k by omega) t
      have htk := (Pl.belowN_taken hx.out (show 0 < k by omega) t).2
      have HU := Lib.hid (uint64n_any k (by omega) (by omega) HS.out (by omega))
      have hpm : p < m := by omega
      have hjm : (Pl.belowN xs k t).1 < m := by omega
      clear hk hkp
      go_wp2_with fail
      refine HU.out.mono ?_
      rintro e w1 ⟨rfl, h1, h2⟩
      have hl1 := HL.out.other h2 hVL (Ne.symm hLG)
      have HL1 := Lib.hid hl1
      have H1 := Lib.hid h1
      have H2 := Lib.hid h2
      clear h1 h2 hl1
      go_wp2_with fail
      refine (swapS_any HL1.out p (Pl.belowN xs k t).1 hpm hjm).mono ?_
      rintro e w2 ⟨rfl, h3, h4⟩
      have HR : Hid (ShRel X R L A n c xs B base V G m cc w (shuf xs m ys 0) p w2) :=
        ⟨_, _, H1.out.other h4 hX hRG hLG, h3, (HB.out.grown H2.out (Nat.le_trans hBw HB.out.size) (fun g hg => by injection hg with hg; omega)).grown h4 (Nat.le_trans hBw (Nat.le_trans HB.out.size H2.out.size)) (fun g hg => by injection hg with hg; omega),
          by rw [← HRES.out]; exact (shuf_step xs p k ys1 t (by omega) HKP.out).symm, by omega⟩
      clear h3 h4 hv
      go_wp2
      go_roundw
      case rel => exact ⟨_, p, rfl, by omega, by omega, HR.out⟩
      case measure => simp [intOf]; omega
    · have hi : ¬ (0 : Int) < iv := by omega
      have hsm := shuf_small xs k ys1 t (by omega)
      have HE := Lib.hid (hsm.symm.trans HRES.out)
      clear hsm
      go_wp2
      go_end0
      rw [← HE.out]
      exact ⟨rfl, HS.out, HL.out, HB.out⟩
end Go.Proofs.Ytdailbjipfbdfaa
