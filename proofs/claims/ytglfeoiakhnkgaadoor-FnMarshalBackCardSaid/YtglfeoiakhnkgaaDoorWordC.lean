/- Contracts: impl.Words, impl.Zero, laws.same; slices of words that are read. -/
import Derived.Test.YtglfeoiakhnkgaaDoorWordB
namespace Go.Proofs.YtglfeoiakhnkgaaDoor
open Go.RowKit

/-- The slice at A, of n words, reads as the words xs. -/
def Sl (w : World) (A : Option Addr) (n : Nat) (xs : List Nat) : Prop :=
  xs.length = n ∧ (0 < n → ∃ g o, A = some ⟨g, o, none⟩ ∧ ∀ i, i < n → w.cell? ⟨g, o + i, none⟩ = some (.int .u64 (xs[i]?.getD 0 : Nat)))

theorem Sl.later {w w' : World} {A : Option Addr} {n : Nat} {xs : List Nat} (h : Sl w A n xs) (hb : Below w.heap.size w w') : Sl w' A n xs :=
  ⟨h.1, fun hn => by
    obtain ⟨g, o, e, hc⟩ := h.2 hn
    exact ⟨g, o, e, fun i hi => cell_later hb (hc i hi)⟩⟩
theorem Sl.drewN {w : World} {A : Option Addr} {n : Nat} {xs : List Nat} (h : Sl w A n xs) (k : Nat) : Sl (w.drewN k) A n xs := h
theorem sl_of_own {w : World} {base : Nat} {v : Value} {n : Nat} {xs : List Nat} (h : w.ownsRow base 22 1 v n (vals xs)) :
    ∃ A c, v = .slice A n c ∧ Sl w A n xs ∧ n ≤ c := by
  have hl : xs.length = n := by have := h.1; simpa [vals] using this
  rcases h.2 with ⟨rfl, rfl⟩ | ⟨g, cap, cur, rfl, hb, hg, hn, hm, hs, ht⟩
  · exact ⟨none, 0, rfl, ⟨hl, fun h => absurd h (by omega)⟩, Nat.le_refl _⟩
  · refine ⟨_, cap, rfl, ⟨hl, fun _ => ⟨g, 0, rfl, fun i hi => ?_⟩⟩, hn⟩
    have := h.cellAt i (by omega)
    rw [Nat.zero_add, this]
    simp [vals, List.getElem?_map, List.getElem?_eq_getElem (show i < xs.length by omega)]

theorem Sl.take {w : World} {A : Option Addr} {n m : Nat} {xs : List Nat} (h : Sl w A n xs) (hm : m ≤ n) : Sl w A m (xs.take m) := by
  refine ⟨by rw [List.length_take, h.1]; omega, fun h0 => ?_⟩
  obtain ⟨g, o, e, hc⟩ := h.2 (by omega)
  refine ⟨g, o, e, fun i hi => ?_⟩
  rw [hc i (by omega), List.getElem?_take, if_pos hi]

set_option maxHeartbeats 1000000 in
theorem same_any (A B : Option Addr) (n c d : Nat) (xs : List Nat) (w : World) (hn : n ≤ 9223372036854775807) (ha : Sl w A n xs) (hb : Sl w B n xs) :
    Calls Tryd.prog 7 #[.slice A n c, .slice B n d] w fun e w' => e = .returned (.bool true) ∧ ∃ q, w' = w.drewN q := by
  by_cases h0 : n = 0
  · subst h0
    clear ha hb
    go_enter Tryd.func7, Tryd.ntmps7
    go_wp2_with fail
    refine wp_loop_rounds 1 ?_
    rw [rounds_succ]
    go_wp2
    go_ret
    exact ⟨rfl, 0, rfl⟩
  · obtain ⟨g, o, rfl, hca⟩ := ha.2 (by omega)
    obtain ⟨g', o', rfl, hcb⟩ := hb.2 (by omega)
    have HA := Lib.hid hca
    have HB := Lib.hid hcb
    clear ha hb hca hcb
    have e0 : ((n : Int) != (n : Int)) = false := by simp
    go_enter Tryd.func7, Tryd.ntmps7
    go_wp2_with fail
    go_loopw [5, 13] (fun _ i wr => ∃ k q : Nat, k ≤ n ∧ i = .int .i64 k ∧ wr = w.drewN q) (fun _ i _ => n - (intOf i).toNat)
    case atStart => exact ⟨0, 0, by omega, rfl, rfl⟩
    case round =>
      obtain ⟨k, q, hk, rfl, rfl⟩ := hrel
      by_cases hlt : k < n
      · have ca := HA.out k hlt
        have cb := HB.out k hlt
        have b1 : (0 : Int) ≤ (k : Int) := by omega
        have b2 : (k : Int) < (n : Int) := by omega
        have e1 : (((xs[k]?.getD 0 : Nat) : Int) != ((xs[k]?.getD 0 : Nat) : Int)) = false := by simp
        go_wp2_with fail
        go_quiet (fail)
        go_wp2
        go_roundw
        case rel => exact ⟨k + 1, _, by omega, by go_num, rfl⟩
        case measure => simp [intOf]; omega
      · obtain rfl : k = n := by omega
        go_wp2
        go_ret
        exact ⟨rfl, q, rfl⟩
end Go.Proofs.YtglfeoiakhnkgaaDoor
