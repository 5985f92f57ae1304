/- Contracts: UnmarshalBinary, spec.Read: bytes as a state. -/
import Derived.Test.YtglfeoiakhnkgaaDoorDoA
import Derived.Deep.RegionHeldLaw
import Derived.Deep.DrawnRows
namespace Go.Proofs.YtglfeoiakhnkgaaDoor
open Go.RowKit
attribute [local go_sem ↓] Go.wp_at_zero Go.wp_at_succ

/-- The byte at a place behind an offset. -/
def byf (ys : List Int) (a i : Nat) : Nat := (ys[a + i]?.getD 0).toNat
theorem byf_lt {ys : List Int} (h : ∀ z ∈ ys, 0 ≤ z ∧ z < 256) (a i : Nat) : byf ys a i < 256 := by
  unfold byf
  cases e : ys[a + i]? with
  | none => simp
  | some z => have := h z (List.mem_of_getElem? e); simp; omega
theorem at8_of {w : World} {g o n : Nat} {ys : List Int} (h : BSl w (some ⟨g, o, none⟩) n ys) (hz : ∀ z ∈ ys, 0 ≤ z ∧ z < 256) (a : Nat) (ha : a + 8 ≤ n) : At8 w g (o + a) (byf ys a) := by
  intro i hi
  obtain ⟨g', o', e, hc⟩ := h.2 (by omega)
  injection e with e
  injection e with e1 e2
  subst e1 e2
  rw [Nat.add_assoc, hc (a + i) (by omega)]
  have hlt : a + i < ys.length := by rw [h.1]; omega
  have := hz _ (List.getElem_mem hlt)
  simp only [byf, List.getElem?_eq_getElem hlt, Option.getD_some]
  congr 2
  omega
theorem at8_drewN {w : World} {g o : Nat} {f : Nat → Nat} (h : At8 w g o f) (q : Nat) : At8 (w.drewN q) g o f := h
theorem At8.later {w w' : World} {g o : Nat} {f : Nat → Nat} (h : At8 w g o f) (hb : Below w.heap.size w w') : At8 w' g o f := fun i hi => cell_later hb (h i hi)
theorem BSl.take {w : World} {A : Option Addr} {n m : Nat} {ys : List Int} (h : BSl w A n ys) (hm : m ≤ n) : BSl w A m (ys.take m) := by
  refine ⟨by rw [List.length_take, h.1]; omega, fun h0 => ?_⟩
  obtain ⟨g, o, e, hc⟩ := h.2 (by omega)
  refine ⟨g, o, e, fun i hi => ?_⟩
  rw [hc i (by omega), List.getElem?_take, if_pos hi]

/-- Bytes are a state: they are twenty, and the first four are the letters. -/
def Good (n : Nat) (ys : List Int) : Prop := n = 20 ∧ (strOfNums (ys.take 4)).toList = [112, 99, 103, 58]
/-- The state that bytes are. -/
noncomputable def rdS (ys : List Int) : Nat := Pl.st (Pl.rdN (byf ys 4) 8) (Pl.rdN (byf ys 12) 8)
theorem hi_rdS {ys : List Int} (hz : ∀ z ∈ ys, 0 ≤ z ∧ z < 256) : Pl.hiW (rdS ys) = Pl.rdN (byf ys 4) 8 := Pl.hiW_st (Pl.rdN_word _ (byf_lt hz 12))
theorem lo_rdS {ys : List Int} (hz : ∀ z ∈ ys, 0 ≤ z ∧ z < 256) : Pl.loW (rdS ys) = Pl.rdN (byf ys 12) 8 := Pl.loW_st (Pl.rdN_word _ (byf_lt hz 12))
theorem at8_far {w : World} {g o b i : Nat} {u : Value} {f : Nat → Nat} (h : At8 w g o f) (hne : b ≠ g) : At8 (w.setCell ⟨b, i, none⟩ u) g o f := fun j hj => by
  rw [← h j hj]
  exact World.cell?_of_block (Below.heap_setCell w _ u g (Ne.symm hne))

set_option maxHeartbeats 1000000 in
theorem unmarshal_good (b c g o : Nat) (x0 x1 : Value) (ys : List Int) (w : World) (hc : 20 ≤ c) (hz : ∀ z ∈ ys, 0 ≤ z ∧ z < 256) (hg : (strOfNums (ys.take 4)).toList = [112, 99, 103, 58]) (hs : BSl w (some ⟨g, o, none⟩) 20 ys)
    (hb : Whole w b 51 #[x0, x1]) (hne : b ≠ g) :
    Calls Tryd.prog 12 #[.pointer (some ⟨b, 0, none⟩), .slice (some ⟨g, o, none⟩) 20 c] w fun e w' => e = .returned .nilIface ∧
      Whole w' b 51 #[.int .u64 (Pl.hiW (rdS ys) : Nat), .int .u64 (Pl.loW (rdS ys) : Nat)] ∧ w.grownBy w' (some b) := by
  have hv := conv_bsl (hs.take (show 4 ≤ 20 by omega)) (fun e => by cases e) c
  have ht : ((strOfNums (ys.take 4)).toList == [112, 99, 103, 58]) = true := by rw [hg]; rfl
  generalize strOfNums (ys.take 4) = X at hv ht hg
  have b4 : (4 : Int) ≤ (c : Int) := by omega
  have H1 := Lib.hid (beuint_any g (o + 4) 16 (c - 4) (byf ys 4) w (by omega) (byf_lt hz 4) (at8_of hs hz 4 (by omega)))
  have H2 := Lib.hid (at8_of hs hz 12 (by omega))
  have HZ := Lib.hid hz
  have HB := Lib.hid hb
  have d0 := hb.cell 0
  have d1 := hb.cell 1
  have e0 := hb.free 0
  have e1 := hb.free 1
  simp at d0 d1
  clear hs hz hb hg
  go_enter Tryd.func12, Tryd.ntmps12
  go_wp2_with fail
  refine H1.out.mono ?_
  rintro e w1 ⟨rfl, q, rfl⟩
  go_wp2_with fail
  refine (beuint_any g (o + 12) 8 (c - 12) (byf ys 12) _ (by omega) (byf_lt HZ.out 12) (at8_far (at8_drewN H2.out q) hne)).mono ?_
  rintro e w2 ⟨rfl, q2, rfl⟩
  go_wp2
  go_ret
  rw [hi_rdS HZ.out, lo_rdS HZ.out]
  refine ⟨rfl, ?_, ?_⟩
  · exact (((HB.out.drewN q).put 0 _).drewN q2).put 1 _
  · exact grow_put (g := b) (p := ⟨b, 1, none⟩) (grow_drewN (grow_put (g := b) (p := ⟨b, 0, none⟩) (grow_drewN (grow_refl _ _) q) (.inl rfl) _) q2) (.inl rfl) _

set_option maxHeartbeats 1000000 in
theorem unmarshal_bad (p : Value) (A : Option Addr) (n c : Nat) (ys : List Int) (E : Value) (w : World) (hn : n ≤ c) (hnil : A = none → n = 0) (hg : ¬ Good n ys) (hs : BSl w A n ys) (hE : w.cell? ⟨0, 0, none⟩ = some E) :
    Calls Tryd.prog 12 #[p, .slice A n c] w fun e w' => e = .returned E ∧ w = w' := by
  by_cases h20 : n = 20
  · subst h20
    have hv := conv_bsl (hs.take (show 4 ≤ 20 by omega)) (fun e => by have := hnil e; omega) c
    have ht : ((strOfNums (ys.take 4)).toList == [112, 99, 103, 58]) = false := by
      cases h : ((strOfNums (ys.take 4)).toList == [112, 99, 103, 58])
      · rfl
      · exact absurd ⟨rfl, eq_of_beq h⟩ hg
    generalize strOfNums (ys.take 4) = X at hv ht
    have b4 : (4 : Int) ≤ (c : Int) := by omega
    clear hg hs hnil
    rcases A with _ | ad
    all_goals
      go_enter Tryd.func12, Tryd.ntmps12
      go_wp2
      go_ret
      exact ⟨rfl, rfl⟩
  · have ht : ((n : Int) != 20) = true := by simp; omega
    clear hg hs hnil
    go_enter Tryd.func12, Tryd.ntmps12
    go_wp2
    go_ret
    exact ⟨rfl, rfl⟩

def stTup (a b : Nat) : Value := .tuple #[.agg #[.int .u64 a, .int .u64 b], .bool true]
set_option maxHeartbeats 1000000 in
theorem read_bad (A : Option Addr) (n c : Nat) (ys : List Int) (w : World) (hn : n ≤ c) (hnil : A = none → n = 0) (hg : ¬ Good n ys) (hs : BSl w A n ys) :
    Calls Tryd.prog 6 #[.slice A n c] w fun e w' => e = .returned (.tuple #[.agg #[.int .u64 0, .int .u64 0], .bool false]) ∧ Below w.heap.size w w' := by
  by_cases h20 : n = 20
  · subst h20
    have hv := fun o => conv_bsl ((hs.later ((Below.refl _ _).alloc (Nat.le_refl _) o)).take (show 4 ≤ 20 by omega)) (fun e => by have := hnil e; omega) c
    have ht : ((strOfNums (ys.take 4)).toList == [112, 99, 103, 58]) = false := by
      cases h : ((strOfNums (ys.take 4)).toList == [112, 99, 103, 58])
      · rfl
      · exact absurd ⟨rfl, eq_of_beq h⟩ hg
    generalize strOfNums (ys.take 4) = X at hv ht
    have b4 : (4 : Int) ≤ (c : Int) := by omega
    clear hg hs hnil
    rcases A with _ | ad
    all_goals
      go_enter Tryd.func6, Tryd.ntmps6
      go_wp2
      refine bodyPost_ret (v := .tuple #[.agg #[.int .u64 0, .int .u64 0], .bool false]) (by simp [results, Tryd.results6, go_sem]) rfl ?_
      exact ⟨rfl, by go_grown⟩
  · have ht : ((n : Int) != 20) = true := by simp; omega
    clear hg hs hnil
    go_enter Tryd.func6, Tryd.ntmps6
    go_wp2
    refine bodyPost_ret (v := .tuple #[.agg #[.int .u64 0, .int .u64 0], .bool false]) (by simp [results, Tryd.results6, go_sem]) rfl ?_
    exact ⟨rfl, by go_grown⟩

theorem wordQ_any (g o n c : Nat) (f : Nat → Nat) (w : World) (hc : 8 ≤ c) (hf : ∀ i, f i < 256) (h : At8 w g o f) :
    Calls Tryd.prog 15 #[.slice (some ⟨g, o, none⟩) n c] w fun e w' => e = .returned (.int .u64 (Pl.rdN f 8 : Nat)) ∧ w = w' ∧ RowKit.Hid (Pl.rdN f 8 < 18446744073709551616) :=
  (word_any g o n c f w hc hf h).mono fun _ _ ⟨h1, h2⟩ => ⟨h1, h2, Lib.hid (Pl.rdN_word f hf)⟩

set_option maxHeartbeats 1000000 in
theorem read_good (g o c : Nat) (ys : List Int) (w : World) (hc : 20 ≤ c) (hz : ∀ z ∈ ys, 0 ≤ z ∧ z < 256) (hg : (strOfNums (ys.take 4)).toList = [112, 99, 103, 58]) (hs : BSl w (some ⟨g, o, none⟩) 20 ys) :
    Calls Tryd.prog 6 #[.slice (some ⟨g, o, none⟩) 20 c] w fun e w' => e = .returned (.tuple #[stV (rdS ys), .bool true]) ∧ Below w.heap.size w w' := by
  have hv := fun o => conv_bsl ((hs.later ((Below.refl _ _).alloc (Nat.le_refl _) o)).take (show 4 ≤ 20 by omega)) (fun e => by cases e) c
  have ht : ((strOfNums (ys.take 4)).toList == [112, 99, 103, 58]) = true := by rw [hg]; rfl
  generalize strOfNums (ys.take 4) = X at hv ht hg
  have b4 : (4 : Int) ≤ (c : Int) := by omega
  have n4 : ¬ c = 4 := by omega
  have n12 : ¬ c = 12 := by omega
  have b8 : 8 ≤ c - 4 := by omega
  have b12 : 8 ≤ c - 12 := by omega
  have K4 := Lib.hid (fun o' => show At8 (w.alloc o').drew g (o + 4) (byf ys 4) from (at8_of hs hz 4 (by omega)).later ((Below.refl _ _).alloc (Nat.le_refl _) o').drew)
  have K12 := Lib.hid (fun o' => show At8 (w.alloc o').drew g (o + 12) (byf ys 12) from (at8_of hs hz 12 (by omega)).later ((Below.refl _ _).alloc (Nat.le_refl _) o').drew)
  have HF4 := Lib.hid (byf_lt hz 4)
  have HF12 := Lib.hid (byf_lt hz 12)
  have hst : stV (rdS ys) = .agg #[.int .u64 (Pl.rdN (byf ys 4) 8 : Nat), .int .u64 (Pl.rdN (byf ys 12) 8 : Nat)] := by rw [stV, hi_rdS hz, lo_rdS hz]
  have HST := Lib.hid hst
  clear hs hz hg hst hc
  go_enter Tryd.func6, Tryd.ntmps6
  go_wp2_with fail
  go_region_held_law (fun _ => True) (exact trivial)
    (first
      | (go_at_call 15; fail_if_success (guard_hyp hq1)
         refine (wordQ_any g (o + 4) 16 (c - 4) (byf ys 4) _ b8 HF4.out (K4.out _)).mono ?_
         rintro e w1 ⟨rfl, rfl, hq1⟩)
      | (go_at_call 15; guard_hyp hq1
         refine (wordQ_any g (o + 12) 8 (c - 12) (byf ys 12) _ b12 HF12.out (K12.out _)).mono ?_
         rintro e w2 ⟨rfl, rfl, hq2⟩))
  all_goals
    clear hq1 hq2
    go_wp2
    refine bodyPost_ret (v := stTup (Pl.rdN (byf ys 4) 8) (Pl.rdN (byf ys 12) 8)) (by simp [results, Tryd.results6, go_sem, stTup]) rfl ?_
    exact ⟨by rw [HST.out]; rfl, by go_grown⟩
end Go.Proofs.YtglfeoiakhnkgaaDoor
