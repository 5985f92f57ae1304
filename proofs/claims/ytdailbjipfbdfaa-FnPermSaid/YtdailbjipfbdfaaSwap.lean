/- Contracts of the two closures that change two places of a list. -/
import Derived.Test.YtdailbjipfbdfaaDraw
import Derived.BigRegion
namespace Go.Proofs.Ytdailbjipfbdfaa
open Go.RowKit

/-- Integers as values. -/
def ivals (ys : List Int) : List Value := ys.map fun y => .int .i64 y
theorem ivals_get (ys : List Int) (i : Nat) (h : i < ys.length) : (ivals ys)[i]? = some (.int .i64 (ys[i]?.getD 0)) := by
  simp [ivals, List.getElem?_map, List.getElem?_eq_getElem h]
theorem ivals_set (ys : List Int) (i : Nat) (z : Int) : (ivals ys).set i (.int .i64 z) = ivals (ys.set i z) := by simp [ivals, List.map_set]

/-- A list with two places changed. -/
def swp (ys : List Int) (i j : Nat) : List Int := (ys.set i (ys[j]?.getD 0)).set j (ys[i]?.getD 0)
theorem swp_length (ys : List Int) (i j : Nat) : (swp ys i j).length = ys.length := by simp [swp]

/-- The list in its array, and the variable that holds the slice. -/
def LstAt (w : World) (base V G m c : Nat) (ys : List Int) : Prop :=
  Whole w V 24 #[.slice (some ⟨G, 0, none⟩) m c] ∧ w.ownsRow base 3 1 (.slice (some ⟨G, 0, none⟩) m c) m (ivals ys) ∧ V ≠ G

theorem LstAt.length {w : World} {base V G m c : Nat} {ys : List Int} (h : LstAt w base V G m c ys) : ys.length = m := by have := h.2.1.1; simpa [ivals] using this
theorem LstAt.cell {w : World} {base V G m c : Nat} {ys : List Int} (h : LstAt w base V G m c ys) {i : Nat} (hi : i < m) : w.cell? ⟨G, i, none⟩ = some (.int .i64 (ys[i]?.getD 0)) := by
  rw [h.2.1.cellAt i (by omega)]
  exact ivals_get ys i (by rw [h.length]; exact hi)
theorem LstAt.swap {w : World} {base V G m c : Nat} {ys : List Int} (h : LstAt w base V G m c ys) (i j : Nat) :
    LstAt ((w.setCell ⟨G, i, none⟩ (.int .i64 (ys[j]?.getD 0))).setCell ⟨G, j, none⟩ (.int .i64 (ys[i]?.getD 0))).drew base V G m c (swp ys i j) ∧
    w.grownBy ((w.setCell ⟨G, i, none⟩ (.int .i64 (ys[j]?.getD 0))).setCell ⟨G, j, none⟩ (.int .i64 (ys[i]?.getD 0))).drew (some G) := by
  obtain ⟨h1, h2, h3⟩ := h
  obtain ⟨a1, a2⟩ := h2.stored i (.int .i64 (ys[j]?.getD 0))
  obtain ⟨b1, b2⟩ := a1.stored j (.int .i64 (ys[i]?.getD 0))
  refine ⟨⟨((h1.far h3 _).far h3 _).drew, ?_, h3⟩, grow_drew (grow_trans a2 b2)⟩
  rw [ivals_set, ivals_set] at b1
  exact b1.kept (w' := World.drew _) ⟨rfl, rfl, rfl, Nat.le_refl _, fun _ _ _ => rfl⟩ (.inr (by simp [Value.ownBlock]) : _ ∨ _ ≠ none)

set_option maxHeartbeats 1000000 in
theorem swapP_ne (V G i j m c : Nat) (a b : Int) (w : World) (hne : i ≠ j) (hi : i < m) (hj : j < m)
    (hv : w.cell? ⟨V, 0, none⟩ = some (.slice (some ⟨G, 0, none⟩) m c)) (ha : w.cell? ⟨G, i, none⟩ = some (.int .i64 a)) (hb : w.cell? ⟨G, j, none⟩ = some (.int .i64 b))
    (fa : w.frozen? ⟨G, i, none⟩ = false) (fb : w.frozen? ⟨G, j, none⟩ = false) (hVG : V ≠ G) :
    Calls Try.prog 35 #[.int .i64 i, .int .i64 j, .pointer (some ⟨V, 0, none⟩)] w fun e w' => e = .returned (.tuple #[]) ∧
      ((w.setCell ⟨G, i, none⟩ (.int .i64 b)).setCell ⟨G, j, none⟩ (.int .i64 a)).drew = w' := by
  have i1 : (0 : Int) ≤ (i : Int) := by omega
  have i2 : (i : Int) < (m : Int) := by omega
  have j1 : (0 : Int) ≤ (j : Int) := by omega
  have j2 : (j : Int) < (m : Int) := by omega
  go_enter Try.func35, Try.ntmps35
  go_wp2
  go_region
  go_end0
  exact ⟨rfl, rfl⟩

set_option maxHeartbeats 1000000 in
theorem swapP_eq (V G i m c : Nat) (a : Int) (w : World) (hi : i < m)
    (hv : w.cell? ⟨V, 0, none⟩ = some (.slice (some ⟨G, 0, none⟩) m c)) (ha : w.cell? ⟨G, i, none⟩ = some (.int .i64 a))
    (fa : w.frozen? ⟨G, i, none⟩ = false) (hVG : V ≠ G) :
    Calls Try.prog 35 #[.int .i64 i, .int .i64 i, .pointer (some ⟨V, 0, none⟩)] w fun e w' => e = .returned (.tuple #[]) ∧
      ((w.setCell ⟨G, i, none⟩ (.int .i64 a)).setCell ⟨G, i, none⟩ (.int .i64 a)).drew = w' := by
  have i1 : (0 : Int) ≤ (i : Int) := by omega
  have i2 : (i : Int) < (m : Int) := by omega
  go_enter Try.func35, Try.ntmps35
  go_wp2
  go_region
  go_end0
  exact ⟨rfl, rfl⟩

theorem swapP_any {w : World} {base V G m c : Nat} {ys : List Int} (h : LstAt w base V G m c ys) (i j : Nat) (hi : i < m) (hj : j < m) :
    Calls Try.prog 35 #[.int .i64 i, .int .i64 j, .pointer (some ⟨V, 0, none⟩)] w fun e w' => e = .returned (.tuple #[]) ∧ LstAt w' base V G m c (swp ys i j) ∧ w.grownBy w' (some G) := by
  have hv := h.1.cell 0
  simp at hv
  by_cases hne : i = j
  · subst hne
    exact (swapP_eq V G i m c _ w hi hv (h.cell hi) (h.2.1.frozenAt i) h.2.2).mono fun e w' ⟨he, hw⟩ => ⟨he, by rw [← hw]; exact (h.swap i i).1, by rw [← hw]; exact (h.swap i i).2⟩
  · exact (swapP_ne V G i j m c _ _ w hne hi hj hv (h.cell hi) (h.cell hj) (h.2.1.frozenAt i) (h.2.1.frozenAt j) h.2.2).mono fun e w' ⟨he, hw⟩ => ⟨he, by rw [← hw]; exact (h.swap i j).1, by rw [← hw]; exact (h.swap i j).2⟩

set_option maxHeartbeats 1000000 in
theorem swapS_ne (V G i j m c : Nat) (a b : Int) (w : World) (hne : i ≠ j) (hi : i < m) (hj : j < m)
    (hv : w.cell? ⟨V, 0, none⟩ = some (.slice (some ⟨G, 0, none⟩) m c)) (ha : w.cell? ⟨G, i, none⟩ = some (.int .i64 a)) (hb : w.cell? ⟨G, j, none⟩ = some (.int .i64 b))
    (fa : w.frozen? ⟨G, i, none⟩ = false) (fb : w.frozen? ⟨G, j, none⟩ = false) (hVG : V ≠ G) :
    Calls Try.prog 29 #[.int .i64 i, .int .i64 j, .pointer (some ⟨V, 0, none⟩)] w fun e w' => e = .returned (.tuple #[]) ∧
      ((w.setCell ⟨G, i, none⟩ (.int .i64 b)).setCell ⟨G, j, none⟩ (.int .i64 a)).drew = w' := by
  have i1 : (0 : Int) ≤ (i : Int) := by omega
  have i2 : (i : Int) < (m : Int) := by omega
  have j1 : (0 : Int) ≤ (j : Int) := by omega
  have j2 : (j : Int) < (m : Int) := by omega
  go_enter Try.func29, Try.ntmps29
  go_wp2
  go_region
  go_end0
  exact ⟨rfl, rfl⟩

set_option maxHeartbeats 1000000 in
theorem swapS_eq (V G i m c : Nat) (a : Int) (w : World) (hi : i < m)
    (hv : w.cell? ⟨V, 0, none⟩ = some (.slice (some ⟨G, 0, none⟩) m c)) (ha : w.cell? ⟨G, i, none⟩ = some (.int .i64 a))
    (fa : w.frozen? ⟨G, i, none⟩ = false) (hVG : V ≠ G) :
    Calls Try.prog 29 #[.int .i64 i, .int .i64 i, .pointer (some ⟨V, 0, none⟩)] w fun e w' => e = .returned (.tuple #[]) ∧
      ((w.setCell ⟨G, i, none⟩ (.int .i64 a)).setCell ⟨G, i, none⟩ (.int .i64 a)).drew = w' := by
  have i1 : (0 : Int) ≤ (i : Int) := by omega
  have i2 : (i : Int) < (m : Int) := by omega
  go_enter Try.func29, Try.ntmps29
  go_wp2
  go_region
  go_end0
  exact ⟨rfl, rfl⟩

theorem swapS_any {w : World} {base V G m c : Nat} {ys : List Int} (h : LstAt w base V G m c ys) (i j : Nat) (hi : i < m) (hj : j < m) :
    Calls Try.prog 29 #[.int .i64 i, .int .i64 j, .pointer (some ⟨V, 0, none⟩)] w fun e w' => e = .returned (.tuple #[]) ∧ LstAt w' base V G m c (swp ys i j) ∧ w.grownBy w' (some G) := by
  have hv := h.1.cell 0
  simp at hv
  by_cases hne : i = j
  · subst hne
    exact (swapS_eq V G i m c _ w hi hv (h.cell hi) (h.2.1.frozenAt i) h.2.2).mono fun e w' ⟨he, hw⟩ => ⟨he, by rw [← hw]; exact (h.swap i i).1, by rw [← hw]; exact (h.swap i i).2⟩
  · exact (swapS_ne V G i j m c _ _ w hne hi hj hv (h.cell hi) (h.cell hj) (h.2.1.frozenAt i) (h.2.1.frozenAt j) h.2.2).mono fun e w' ⟨he, hw⟩ => ⟨he, by rw [← hw]; exact (h.swap i j).1, by rw [← hw]; exact (h.swap i j).2⟩
end Go.Proofs.Ytdailbjipfbdfaa
