/- Contract of impl.Unmarshal: words of a generator that is read from bytes. -/
import Derived.Test.YtglfeoiakhnkgaaDoorDoB
namespace Go.Proofs.YtglfeoiakhnkgaaDoor
open Go.RowKit
attribute [local go_sem ↓] Go.wp_at_zero Go.wp_at_succ

theorem own_slice {w : World} {base : Nat} {v : Value} {n : Nat} {ys : List Int} (h : w.ownsRow base 5 1 v n (bys ys)) :
    ∃ A c, v = .slice A n c ∧ n ≤ c ∧ BSl w A n ys ∧ (A = none → n = 0) ∧ ∀ ad, A = some ad → ∃ g, ad = ⟨g, 0, none⟩ ∧ base ≤ g := by
  have hl : ys.length = n := by have := h.1; simpa [bys] using this
  rcases h.2 with ⟨rfl, rfl⟩ | ⟨g, cap, cur, rfl, hb, hg, hn, hm, hs, ht⟩
  · exact ⟨none, 0, rfl, Nat.le_refl _, ⟨hl, fun h => absurd h (by omega)⟩, fun _ => rfl, fun _ e => by cases e⟩
  · refine ⟨_, cap, rfl, hn, ⟨hl, fun _ => ⟨g, 0, rfl, fun i hi => ?_⟩⟩, (by intro e; cases e), fun ad e => ⟨g, by injection e with e; exact e.symm, hb⟩⟩
    have := h.cellAt i (by omega)
    rw [Nat.zero_add, this]
    exact bys_get ys i (by omega)

/-- A call has given words and a bool, and nothing that was there has changed. -/
def GivU (w : World) (n : Nat) (xs : List Nat) (ok : Bool) (e : Ending) (w' : World) : Prop :=
  ∃ A c, e = .returned (.tuple #[.slice A n c, .bool ok]) ∧ n ≤ c ∧ Sl w' A n xs ∧ Below w.heap.size w w'
theorem givU_of {w w0 w' : World} {b s n : Nat} {v : Value} {ok : Bool} (h : DRel w0 b s n v w') (h0 : Below w.heap.size w w0) (hb : w.heap.size ≤ b) : GivU w n (tws s n) ok (.returned (.tuple #[v, .bool ok])) w' := by
  obtain ⟨A, c, rfl, hs, hc⟩ := sl_of_own h.1
  exact ⟨A, c, rfl, hc, hs, h0.grown h.2.2.2 h0.size (fun k hk => by injection hk with hk; omega)⟩

set_option maxHeartbeats 1000000 in
theorem unmarshalI_good (hi lo c m : Nat) (A : Option Addr) (ys : List Int) (w : World) (hm : m ≤ 4096) (hz : ∀ z ∈ ys, 0 ≤ z ∧ z < 256) (hg : (strOfNums (ys.take 4)).toList = [112, 99, 103, 58]) (hnil : A = none → 20 = 0) (hs : BSl w A 20 ys) :
    Calls Tryd.prog 5 #[.int .u64 hi, .int .u64 lo, .slice A 20 c, .int .i64 m] w (GivU w m (tws (rdS ys) m) true) := by
  have b1 : Below w.heap.size w (w.alloc (.cells #[.int .u64 hi, .int .u64 lo] 51)) := (Below.refl _ _).alloc (Nat.le_refl _) _
  have HC := Lib.hid (cloneB_any A 20 c ys (w.alloc (.cells #[.int .u64 hi, .int .u64 lo] 51)) (by omega) hnil (hs.later b1))
  have HB1 := Lib.hid b1
  have HZ := Lib.hid hz
  have HG := Lib.hid hg
  clear b1 hs hz hg
  go_enter Tryd.func5, Tryd.ntmps5
  go_wp2_with fail
  refine (newpcg_any hi lo _).mono ?_
  rintro e w1 ⟨rfl, rfl⟩
  go_wp2_with fail
  refine HC.out.mono ?_
  rintro e w2 ⟨v, rfl, hown, hb2⟩
  have hwh := (Whole.new w 51 #[.int .u64 hi, .int .u64 lo]).below hb2 (by simp)
  obtain ⟨A2, c2, rfl, hc2, hs2, hn2, ha2⟩ := own_slice hown
  rcases A2 with _ | ad
  · exact absurd (hn2 rfl) (by omega)
  obtain ⟨g2, rfl, hg2⟩ := ha2 ad rfl
  have HU := Lib.hid (unmarshal_good w.heap.size c2 g2 0 _ _ ys w2 hc2 HZ.out HG.out hs2 hwh (by simp at hg2; omega))
  have HB2 := Lib.hid (below_trans HB1.out (hb2.mono (by simp)))
  clear hown hb2 hwh hs2 hn2 ha2 HC HB1 hg2
  go_wp2_with fail
  refine HU.out.mono ?_
  rintro e w3 ⟨rfl, hw3, hg3⟩
  have HB3 := Lib.hid (HB2.out.grown hg3 HB2.out.size (fun k hk => by injection hk with hk; omega))
  have HD := Lib.hid (fun W (h : Whole W w.heap.size 51 #[.int .u64 (Pl.hiW (rdS ys) : Nat), .int .u64 (Pl.loW (rdS ys) : Nat)]) => drawn_any w.heap.size (rdS ys) m W hm h)
  have HW3 := Lib.hid hw3
  clear hw3 hg3 HU HB2
  go_wp2_with fail
  go_region_held_law (fun _ => True) (exact trivial)
    (first
      | (go_at_call 14; refine (HD.out _ HW3.out.drew).mono ?_; rintro e w4 ⟨v4, rfl, h4⟩))
  have H4 := Lib.hid h4
  clear h4
  go_wp2
  go_ret2
  exact givU_of H4.out HB3.out.drew (Nat.le_refl _)

set_option maxHeartbeats 1000000 in
theorem unmarshalI_bad (hi lo n c m : Nat) (A : Option Addr) (ys : List Int) (a : Addr) (w : World) (hn : n ≤ 300) (hm : m ≤ 4096) (hl : lo < 18446744073709551616) (hg : ¬ Good n ys) (hnil : A = none → n = 0) (hs : BSl w A n ys)
    (hE : w.cell? ⟨0, 0, none⟩ = some (.iface 64 (.pointer (some a)))) :
    Calls Tryd.prog 5 #[.int .u64 hi, .int .u64 lo, .slice A n c, .int .i64 m] w (GivU w m (tws (Pl.st hi lo) m) false) := by
  have b1 : Below w.heap.size w (w.alloc (.cells #[.int .u64 hi, .int .u64 lo] 51)) := (Below.refl _ _).alloc (Nat.le_refl _) _
  have HC := Lib.hid (cloneB_any A n c ys (w.alloc (.cells #[.int .u64 hi, .int .u64 lo] 51)) (by omega) hnil (hs.later b1))
  have HB1 := Lib.hid b1
  have HG := Lib.hid hg
  have HE := Lib.hid hE
  clear b1 hs hg hE
  go_enter Tryd.func5, Tryd.ntmps5
  go_wp2_with fail
  refine (newpcg_any hi lo _).mono ?_
  rintro e w1 ⟨rfl, rfl⟩
  go_wp2_with fail
  refine HC.out.mono ?_
  rintro e w2 ⟨v, rfl, hown, hb2⟩
  have hwh : Whole w2 w.heap.size 51 #[.int .u64 (Pl.hiW (Pl.st hi lo) : Nat), .int .u64 (Pl.loW (Pl.st hi lo) : Nat)] := by
    rw [Pl.hiW_st hl, Pl.loW_st hl]
    exact (Whole.new w _ _).below hb2 (by simp)
  obtain ⟨A2, c2, rfl, hc2, hs2, hn2, _⟩ := own_slice hown
  have hb3 := below_trans HB1.out (hb2.mono (by simp))
  have HU := Lib.hid (unmarshal_bad (.pointer (some ⟨w.heap.size, 0, none⟩)) A2 n c2 ys _ w2 hc2 hn2 HG.out hs2 (cell_later hb3 HE.out))
  have HB2 := Lib.hid hb3
  have HW2 := Lib.hid hwh
  clear hown hb2 hb3 hwh hs2 hn2 HC HB1
  go_wp2_with fail
  refine HU.out.mono ?_
  rintro e w3 ⟨rfl, rfl⟩
  have HD := Lib.hid (fun W (h : Whole W w.heap.size 51 #[.int .u64 (Pl.hiW (Pl.st hi lo) : Nat), .int .u64 (Pl.loW (Pl.st hi lo) : Nat)]) => drawn_any w.heap.size (Pl.st hi lo) m W hm h)
  clear HU
  go_wp2_with fail
  go_region_held_law (fun _ => True) (exact trivial)
    (first
      | (go_at_call 14; refine (HD.out _ HW2.out.drew).mono ?_; rintro e w4 ⟨v4, rfl, h4⟩))
  have H4 := Lib.hid h4
  clear h4
  go_wp2
  go_ret2
  exact givU_of H4.out HB2.out.drew (Nat.le_refl _)
end Go.Proofs.YtglfeoiakhnkgaaDoor
