/- Contracts: (*Rand).Perm, slices.Clone of integers, impl.Perm. -/
import Derived.Test.YtdailbjipfbdfaaShuf
import Derived.Test.YtdailbjipfbdfaaNum
namespace Go.Proofs.Ytdailbjipfbdfaa
open Go.RowKit

theorem info_int : (Try.prog.info? 3).map (fun i => (i.zero, i.size, i.bytes)) = some (some (.int .i64 0), 1, 8) := by kernel_rfl

/-- The numbers below m, of which the first k are laid. -/
def idk (m k : Nat) : List Int := (List.range m).map fun i => if i < k then (i : Int) else 0
def idl (m : Nat) : List Int := (List.range m).map fun i : Nat => (i : Int)
theorem idk_zero (m : Nat) : ivals (idk m 0) = List.replicate m (.int .i64 0) := by
  apply List.ext_getElem
  · simp [ivals, idk]
  · intro i h1 h2
    simp [ivals, idk]
theorem idk_succ (m k : Nat) (_h : k < m) : (idk m k).set k (k : Int) = idk m (k + 1) := by
  apply List.ext_getElem
  · simp [idk]
  · intro i h1 h2
    simp only [idk, List.getElem_set, List.getElem_map, List.getElem_range]
    by_cases hk : k = i
    · subst hk; simp
    · rw [if_neg hk]
      by_cases hi : i < k
      · rw [if_pos hi, if_pos (by omega)]
      · rw [if_neg hi, if_neg (by omega)]
theorem idk_all (m : Nat) : idk m m = idl m := by
  apply List.ext_getElem
  · simp [idk, idl]
  · intro i h1 h2
    simp only [idk, idl, List.getElem_map, List.getElem_range]
    rw [if_pos (by simpa [idk] using h1)]

theorem LstAt.store {w : World} {base V G m c : Nat} {ys : List Int} (h : LstAt w base V G m c ys) (i : Nat) (z : Int) :
    LstAt (w.setCell ⟨G, i, none⟩ (.int .i64 z)) base V G m c (ys.set i z) ∧ w.grownBy (w.setCell ⟨G, i, none⟩ (.int .i64 z)) (some G) := by
  obtain ⟨a1, a2⟩ := h.2.1.stored i (.int .i64 z)
  rw [ivals_set] at a1
  exact ⟨⟨h.1.far h.2.2 _, a1, h.2.2⟩, a2⟩

set_option maxHeartbeats 2000000 in
theorem perm_any {X : Nat → Prop} {R L : Nat} {A : Option Addr} {n c : Nat} {xs : List Nat} {B m : Nat} {w : World} (hm : m ≤ 4096) (hsrc : Src X R L A n c xs w 0) (hX : ∀ g, L ≤ g → X g) (hBL : B ≤ L) :
    Calls Try.prog 26 #[.pointer (some ⟨R, 0, none⟩), .int .i64 m] w fun e w' => e = .returned (.slice (some ⟨w.heap.size, 0, none⟩) m m) ∧
      Src X R L A n c xs w' (shuf xs m (idl m) 0).2 ∧ w'.ownsRow w.heap.size 3 1 (.slice (some ⟨w.heap.size, 0, none⟩) m m) m (ivals (shuf xs m (idl m) 0).1) ∧ Below B w w' := by
  obtain ⟨i0, hi0, hz0, hz1, hz2⟩ := info_parts info_int
  obtain ⟨w1, hrun, hown, hg⟩ := run_make_full (P := Try.prog) w w.heap.size 24 3 i0 (.int .i64 0) 1 Try.underlying24 hi0 hz0 hz1 .i64 .i64 m (by rw [hz2]; omega) (by unfold maxLen; omega) (Nat.le_refl _)
  have hRlt := Whole.lt hsrc.1
  have hLlt := Whole.lt hsrc.2.1
  have hgb := below_of_grow hg
  have hs1 := hsrc.later hgb
  have hz := hgb.size
  have hGlt : w.heap.size < w1.heap.size := (hown.lt w.heap.size rfl).2
  have e0 : (madeCells (Value.int IntKind.i64 0).cells (m * 1)).toList = ivals (idk m 0) := by
    rw [idk_zero, Nat.mul_one]
    exact toList_madeCells_one _ _
  rw [e0] at hown
  have hl0 : LstAt (w1.alloc (.cells #[.slice (some ⟨w.heap.size, 0, none⟩) m m] 24)) w.heap.size w1.heap.size w.heap.size m m (idk m 0) := ⟨Whole.new _ _ _, hown.alloc _, by omega⟩
  have hb0 : Below w.heap.size w (w1.alloc (.cells #[.slice (some ⟨w.heap.size, 0, none⟩) m m] 24)) := hgb.alloc hz _
  have hs2 := hs1.later ((Below.refl w1.heap.size w1).alloc (Nat.le_refl _) (.cells #[.slice (some ⟨w.heap.size, 0, none⟩) m m] 24))
  have HL := Lib.hid hl0
  have HB := Lib.hid hb0
  have HS := Lib.hid hs2
  have HX := Lib.hid hX
  clear hl0 hb0 hs2 hs1 hsrc hown hg hgb e0 hX hi0 hz0 hz1 hz2
  go_enter Try.func26, Try.ntmps26
  go_wp2_with fail
  clear hrun
  go_loopw [6, 11] (fun _ i wr => ∃ k : Nat, k ≤ m ∧ i = .int .i64 k ∧ LstAt wr w.heap.size w1.heap.size w.heap.size m m (idk m k) ∧ Src X R L A n c xs wr 0 ∧ Below w.heap.size w wr) (fun _ i _ => m - (intOf i).toNat)
  case atStart => exact ⟨0, by omega, rfl, HL.out, HS.out, HB.out⟩
  case round =>
    obtain ⟨k, hk, rfl, hl, hs, hb⟩ := hrel
    have HL1 := Lib.hid hl
    have HS1 := Lib.hid hs
    have HB1 := Lib.hid hb
    clear hl hs hb HL HS HB
    have c0 := HL1.out.1.cell 0
    simp at c0
    by_cases hlt : k < m
    · have d0 := HL1.out.cell hlt
      have f0 := HL1.out.2.1.frozenAt k
      have k1 : (0 : Int) ≤ (k : Int) := by omega
      have k2 : (k : Int) < (m : Int) := by omega
      go_wp2
      go_roundw
      case rel =>
        obtain ⟨q1, q2⟩ := HL1.out.store k k
        rw [idk_succ m k hlt] at q1
        exact ⟨k + 1, by omega, by go_num, q1, HS1.out.other q2 (HX.out _ (by omega)) (by omega) (by omega), HB1.out.grown q2 HB1.out.size (fun g hg => by injection hg with hg; omega)⟩
      case measure => simp [intOf]; omega
    · obtain rfl : k = m := by omega
      have hl2 := HL1.out
      rw [idk_all] at hl2
      have HSH := Lib.hid (shuffleP_any (B := B) hm HS1.out hl2 (HX.out _ (by omega)) (by omega) (by omega) (by omega) hBL (by omega) (by have := HB1.out.size; omega))
      clear hl2
      go_wp2_with fail
      refine HSH.out.mono ?_
      rintro e w2 ⟨rfl, h1, h2, h3⟩
      have c1 := h2.1.cell 0
      simp at c1
      have H1 := Lib.hid h1
      have H2 := Lib.hid h2
      have H3 := Lib.hid h3
      clear h1 h2 h3
      go_wp2
      go_ret
      exact ⟨rfl, H1.out, H2.out.2.1, (HB1.out.mono (by omega)).trans H3.out⟩
end Go.Proofs.Ytdailbjipfbdfaa
