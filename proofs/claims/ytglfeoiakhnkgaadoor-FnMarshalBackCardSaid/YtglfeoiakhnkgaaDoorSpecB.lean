/- Contracts of the reference: Plus, Times, opposite over states, Factor, Added, Step. -/
import Derived.Test.YtglfeoiakhnkgaaDoorSpecA
import Derived.Deep.RegionWith
import Derived.Deep.RegionHeld3
namespace Go.Proofs.YtglfeoiakhnkgaaDoor
open Go.RowKit

theorem plus_s (s t : Nat) (w : World) (hs : s < 340282366920938463463374607431768211456) (ht : t < 340282366920938463463374607431768211456) :
    Calls Tryd.prog 21 #[stV s, stV t] w fun e w' => e = .returned (stV (Pl.add s t)) ∧ Below w.heap.size w w' := by
  have h := plus_any (Pl.hiW s) (Pl.loW s) (Pl.hiW t) (Pl.loW t) w (Pl.hiW_lt hs) (Pl.loW_lt s) (Pl.hiW_lt ht) (Pl.loW_lt t)
  rw [Pl.st_hl, Pl.st_hl] at h
  exact h
theorem times_s (s t : Nat) (w : World) :
    Calls Tryd.prog 22 #[stV s, stV t] w fun e w' => e = .returned (stV (Pl.mul s t)) ∧ Below w.heap.size w w' := by
  have h := times_any (Pl.hiW s) (Pl.loW s) (Pl.hiW t) (Pl.loW t) w (Pl.loW_lt s) (Pl.loW_lt t)
  rw [Pl.st_hl, Pl.st_hl] at h
  exact h

theorem factor_any (w : World) :
    Calls Tryd.prog 23 #[] w fun e w' => e = .returned (stV Pl.F) ∧ Below w.heap.size w w' := by
  go_enter Tryd.func23, Tryd.ntmps23
  go_wp2
  go_returns
  exact ⟨ret_st (by rw [Pl.hiW_F]; rfl) (by rw [Pl.loW_F]; rfl), by go_grown⟩
theorem added_any (w : World) :
    Calls Tryd.prog 24 #[] w fun e w' => e = .returned (stV Pl.A) ∧ Below w.heap.size w w' := by
  go_enter Tryd.func24, Tryd.ntmps24
  go_wp2
  go_returns
  exact ⟨ret_st (by rw [Pl.hiW_A]; rfl) (by rw [Pl.loW_A]; rfl), by go_grown⟩

theorem held2 {W1 W2 : World} {p q : Value} {b0 : Nat} (hb : Below W1.heap.size W1 W2)
    (h : W1.cell? ⟨b0, 0, none⟩ = some p ∧ W1.cell? ⟨b0, 1, none⟩ = some q) : W2.cell? ⟨b0, 0, none⟩ = some p ∧ W2.cell? ⟨b0, 1, none⟩ = some q :=
  ⟨cell_later hb h.1, cell_later hb h.2⟩
theorem held2_put {W : World} {p q u v : Value} {b0 b1 : Nat} (h : W.cell? ⟨b0, 0, none⟩ = some p ∧ W.cell? ⟨b0, 1, none⟩ = some q) (hne : b0 ≠ b1) :
    ((W.setCell ⟨b1, 0, none⟩ u).setCell ⟨b1, 1, none⟩ v).cell? ⟨b0, 0, none⟩ = some p ∧ ((W.setCell ⟨b1, 0, none⟩ u).setCell ⟨b1, 1, none⟩ v).cell? ⟨b0, 1, none⟩ = some q := by
  refine ⟨?_, ?_⟩ <;> rw [World.cell?_setCell_other _ _ _ _ (by intro e; have := congrArg Addr.block e; simp at this; omega), World.cell?_setCell_other _ _ _ _ (by intro e; have := congrArg Addr.block e; simp at this; omega)]
  · exact h.1
  · exact h.2

set_option maxHeartbeats 1000000 in
theorem step_any (s : Nat) (w : World) :
    Calls Tryd.prog 16 #[stV s] w fun e w' => e = .returned (stV (Pl.step s)) ∧ Below w.heap.size w w' := by
  have hA := Pl.A_lt
  have hm := Pl.mul_lt s Pl.F
  go_enter Tryd.func16, Tryd.ntmps16
  go_wp2_with fail
  obtain ⟨W, hW⟩ : ∃ W, W = (w.alloc (.cells #[.int .u64 (Pl.hiW s : Nat), .int .u64 (Pl.loW s : Nat)] 28)).alloc (.cells #[.int .u64 0, .int .u64 0] 28) := ⟨_, rfl⟩
  rw [← hW]
  have c0 : W.cell? ⟨w.heap.size, 0, none⟩ = some (.int .u64 (Pl.hiW s : Nat)) := by rw [hW]; simp [go_sem]
  have c1 : W.cell? ⟨w.heap.size, 1, none⟩ = some (.int .u64 (Pl.loW s : Nat)) := by rw [hW]; simp [go_sem]
  have c2 : W.cell? ⟨w.heap.size + 1, 0, none⟩ = some (.int .u64 0) := by rw [hW]; simp [go_sem]
  have c3 : W.cell? ⟨w.heap.size + 1, 1, none⟩ = some (.int .u64 0) := by rw [hW]; simp [go_sem]
  have f2 : W.frozen? ⟨w.heap.size + 1, 0, none⟩ = false := by rw [hW]; simp [go_sem]
  have f3 : W.frozen? ⟨w.heap.size + 1, 1, none⟩ = false := by rw [hW]; simp [go_sem]
  have HW : Hid (Below w.heap.size w W) := by rw [hW]; exact ((Below.refl _ _).alloc (Nat.le_refl _) _).alloc (by simp) _
  clear hW
  have hne : w.heap.size ≠ w.heap.size + 1 := by omega
  go_region_held3 (fun w' => w'.cell? ⟨w.heap.size, 0, none⟩ = some (.int .u64 (Pl.hiW s : Nat)) ∧ w'.cell? ⟨w.heap.size, 1, none⟩ = some (.int .u64 (Pl.loW s : Nat)))
    (first
      | (exact ⟨c0, c1⟩)
      | (exact held2_put (by assumption) hne)
      | (exact held2 (by assumption) (by assumption)))
    (first
      | (go_at_call 23; refine (factor_any _).mono ?_; rintro e w1 ⟨rfl, hb1⟩)
      | (go_at_call 22; refine (times_s _ _ _).mono ?_; rintro e w2 ⟨rfl, hb2⟩)
      | (go_at_call 24; refine (added_any _).mono ?_; rintro e w3 ⟨rfl, hb3⟩)
      | (go_at_call 21; refine (plus_s _ _ _ hm hA).mono ?_; rintro e w4 ⟨rfl, hb4⟩
         have hbb : Below W.heap.size W.drew w4 := hb1.trans ((hb2.mono hb1.size).trans ((hb3.mono (hb1.trans (hb2.mono hb1.size)).size).trans (hb4.mono (hb1.trans ((hb2.mono hb1.size).trans (hb3.mono (hb1.trans (hb2.mono hb1.size)).size))).size)))
         have d2 := cell_later (w := W.drew) hbb c2
         have d3 := cell_later (w := W.drew) hbb c3
         have g2 := free_later (w := W.drew) hbb c2 f2
         have g3 := free_later (w := W.drew) hbb c3 f3))
  have HB : Hid (Below w.heap.size w w4) := HW.out.drew.trans (hbb.mono HW.out.size)
  clear hb1 hb2 hb3 hb4 hbb
  go_wp2
  refine bodyPost_ret (v := stV (Pl.add (Pl.mul s Pl.F) Pl.A)) (by simp [results, Tryd.results16, go_sem, d2, d3]) rfl ?_
  rw [Pl.step_eq]
  exact ⟨rfl, (HB.out.setCell (by simp) _).setCell (by simp) _⟩
end Go.Proofs.YtglfeoiakhnkgaaDoor
