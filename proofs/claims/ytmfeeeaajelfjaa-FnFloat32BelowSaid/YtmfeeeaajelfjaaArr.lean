/- A slice of integers that came in, and what it reads as. -/
import Derived.Test.YtmfeeeaajelfjaaSrc
namespace Go.Proofs.Ytmfeeeaajelfjaa
open Go.RowKit

/-- The slice at a, of n integers of kind k, reads as zs. -/
def Arr (k : IntKind) (w : World) (a : Option Addr) (n cap : Nat) (zs : List Int) : Prop :=
  zs.length = n ∧ n ≤ cap ∧ cap ≤ maxLen ∧ (a = none → n = 0 ∧ cap = 0) ∧
  (0 < n → ∃ b off, a = some ⟨b, off, none⟩ ∧ b < w.heap.size ∧ ∀ i, i < n → w.cell? ⟨b, off + i, none⟩ = some (.int k (zs[i]?.getD 0))) ∧ ∀ z ∈ zs, (Lit.int k z).wf = true

theorem Arr.of_nil (w : World) (k : IntKind) : Arr k w none 0 0 [] := ⟨rfl, Nat.le_refl _, Nat.zero_le _, fun _ => ⟨rfl, rfl⟩, fun h => absurd h (by omega), by simp⟩
theorem Arr.of_open {k : IntKind} {w : World} {x : Addr} {len cap : Nat} {zs : List Int} (hl : len ≤ cap) (hm : cap ≤ maxLen) (hz : zs.length = cap)
    (hcell : ∀ i, i < zs.length → w.cell? (x.add i) = some (.int k (zs.getD i 0))) (hwz : ∀ n ∈ zs, (Lit.int k n).wf = true) : Arr k w (some x) len cap (zs.take len) := by
  refine ⟨by rw [List.length_take]; omega, hl, hm, (fun h => by cases h), fun h0 => ?_, fun z hz' => hwz z (List.mem_of_mem_take hz')⟩
  obtain ⟨b, off, spot⟩ := x
  have hc := hcell 0 (by omega)
  have hspot : spot = none := by simpa [Addr.add] using World.cell?_spot hc
  subst hspot
  refine ⟨b, off, rfl, World.block_lt_of_cell? _ _ (by simpa [Addr.add] using hc), fun i hi => ?_⟩
  have h := hcell i (by omega)
  rw [show (⟨b, off, none⟩ : Addr).add i = ⟨b, off + i, none⟩ from by unfold Addr.add; split <;> simp_all] at h
  rw [h, List.getElem?_take, if_pos hi]
  simp [List.getD_eq_getElem?_getD]

/-- Words that came in. -/
theorem sl_of_arr {w : World} {a : Option Addr} {n cap : Nat} {zs : List Int} (h : Arr .u64 w a n cap zs) :
    ∃ xs : List Nat, Sl w (fun _ => False) a n xs ∧ (∀ x ∈ xs, x < 18446744073709551616) ∧ (a = none → n = 0) := by
  obtain ⟨h1, _, _, h4, h5, h6⟩ := h
  have hb : ∀ z ∈ zs, 0 ≤ z ∧ z < 18446744073709551616 := by
    intro z hz
    have hw := h6 z hz
    simp [Lit.wf, IntKind.min, IntKind.max, IntKind.signed, IntKind.bits] at hw
    omega
  refine ⟨zs.map Int.toNat, ⟨by rw [List.length_map, h1], fun h0 => ?_⟩, ?_, fun e => (h4 e).1⟩
  · obtain ⟨b, off, e, _, hc⟩ := h5 h0
    refine ⟨b, off, e, by simp, fun i hi => ?_⟩
    have hi' : i < zs.length := by omega
    rw [hc i hi, List.getElem?_map, List.getElem?_eq_getElem hi']
    have := hb zs[i] (List.getElem_mem hi')
    simp only [Option.getD_some, Option.map_some, Option.some.injEq]
    congr 1
    omega
  · intro x hx
    obtain ⟨z, hz, rfl⟩ := List.mem_map.1 hx
    have := hb z hz
    omega
end Go.Proofs.Ytmfeeeaajelfjaa
